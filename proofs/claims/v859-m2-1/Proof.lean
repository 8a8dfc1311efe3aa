import JvmDerived
import JvmDerived.Pilot.@@N@@Statement
import JvmDerived.Pilot.@@N@@Code
set_option linter.unusedVariables false
set_option linter.unusedSimpArgs false
namespace Jvm.Pilot.@@N@@
open Jvm Jvm.ClassFile Sem Op Lib Jvm.Free Jvm.Stand Jvm.LawKit Jvm.RoadKit Bundle Jvm.Pilot.@@N@@.Jvm.D
theorem own_w (i : Nat) {d : Jvm.Cond} (h : tables_1[i]? = some d) : d ∈ tables_1 := List.mem_of_getElem? h
def own_Go (p : Program) (e : Env) (below : List Frame) (A B : State) : Prop := ∀ t, Steps p.tables e below B t → Steps p.tables e below A t
section OwnKit
variable {p : Program} {l : Launch} {e : Env} {R : Room} {s : State} {m : MethodId} {args : Array Value} {below : List Frame} {meth : Method} {c : Code} {T : State} {locs : List Loc} {cells slots : Nat}
theorem retI (X : Stand p l e R s m args below meth c T locs cells slots) (hx : p.tables.exec = Jvm.exec) {pc : Nat} {Ls : Array Slot} {z : Int32} {rest : List Value} (hret : meth.sig.returnType = some .int) (hd : decode c.code pc = .ok (.ireturn, 1)) {fs : List Frame}
    (hl : ∀ (f : JFrame) (acts : List Action), f.method = m → f.locked = none → f.entered = [] → (doReturn e (T.setTop f) acts (some (.int z))).1 = T.setFrames fs) : Steps p.tables e below (T.setTop (mkF m pc Ls (.int z :: rest))) (T.setFrames fs) :=
  retOut X hx hret rfl (Or.inl ⟨rfl, Or.inl rfl, z, rfl⟩) hd hl
theorem own_retR (X : Stand p l e R s m args below meth c T locs cells slots) (hx : p.tables.exec = Jvm.exec) {pc : Nat} {Ls : Array Slot} {w : Value} {t : FieldType} {rest : List Value} (hret : meth.sig.returnType = some t) (ht : t.isReference = true) (hw : w.isRef = true) (hd : decode c.code pc = .ok (.areturn, 1)) {fs : List Frame}
    (hl : ∀ (f : JFrame) (acts : List Action), f.method = m → f.locked = none → f.entered = [] → (doReturn e (T.setTop f) acts (some w)).1 = T.setFrames fs) : Steps p.tables e below (T.setTop (mkF m pc Ls (w :: rest))) (T.setFrames fs) :=
  retOut X hx hret (by cases t <;> cases w <;> simp_all [FieldType.isReference, Value.isRef, narrow]) (Or.inr (Or.inr (Or.inr (Or.inr ⟨rfl, ht, hw⟩)))) hd hl
end OwnKit

theorem own_eqI {args : Array Value} {first s : State} {o : Option Outcome} {idx : List Nat} {t : Term} {k : Int32} (h : (Jvm.Cond.eq t (.int k)).value args first o s idx = some true) : t.eval args first o idx s = some (.int k) := by
  obtain ⟨x, y, h1, h2, h3, h4⟩ := cmp_v (Or.inl h)
  obtain rfl : y = .int k := by simpa [Term.eval] using h2.symm
  obtain ⟨z, rfl⟩ := h4
  simp [Cond.value, h1, h2] at h
  subst h
  exact h1

theorem d1_0 : decode method_2_code 0 = .ok (.iload_n 0, 1) := by decide +kernel
theorem d1_1 : decode method_2_code 1 = .ok (.ifCond .ne 7, 3) := by decide +kernel
theorem d1_4 : decode method_2_code 4 = .ok (.getstatic 7, 3) := by decide +kernel
theorem d1_7 : decode method_2_code 7 = .ok (.areturn, 1) := by decide +kernel
theorem pn_1 : plainName "com/example/eurybates/eurybates/protocol/ApiKeyImplementsVersionPinLaw" = true := by first | (simp [plainName, overriddenIn]; done) | decide +kernel
theorem ef_1n0 (m : MethodId)  : entryFrame m #[(.int (0 : Int32))] 1 = mkF m 0 #[.val (.int (0 : Int32))] [] := by first | (simp [entryFrame, mkF, argsToLocals, Value.category]; done) | rfl
def Q1n0 (Z : State) (wPRODUCE : Addr) (h0 : Heap) (n0 : Nat) (v : Option Value) (h : Heap) (L : List Loc) : Prop := v = (some (.ref wPRODUCE)) ∧ Fr n0 L ∧ h = h0
set_option maxRecDepth 65536 in
set_option maxHeartbeats 40000000 in
theorem rm1n0 (l : Launch) (Z : State) (a0 : Array Value) (hw : ∀ d ∈ tables_1, d.before a0 Z = true) (ws : List Jvm.Cond) (wPRODUCE : Addr) (h0 : Heap) (n0 : Nat) (Z0 : n0 ≤ h0.size) (O0 : Old Z n0 h0) (SPRODUCE : Sta Z Z.heap "com/example/eurybates/eurybates/protocol/ApiKey" "PRODUCE" "Lcom/example/eurybates/eurybates/protocol/ApiKey;" (.ref wPRODUCE)) :
    MetFree l (⟨"com/example/eurybates/eurybates/protocol/ApiKeyImplementsVersionPinLaw", "pick", "(I)Lcom/example/eurybates/eurybates/protocol/ApiKey;"⟩ : MethodName) (head1 (Jvm.Cond.code (⟨"com/example/eurybates/eurybates/protocol/ApiKeyImplementsVersionPinLaw", "pick", "(I)Lcom/example/eurybates/eurybates/protocol/ApiKey;"⟩ : MethodName) method_2_code 1 (some (.object "com/example/eurybates/eurybates/protocol/ApiKey")) :: ws) ({ frames := 0, cells := 0, slots := 0, locals := 0 } : Room)) (fun a U => a = #[(.int (0 : Int32))] ∧ Z.Warmed39 U.vm ∧ U.heap = h0) (fun _ _ _ _ _ => True) (fun _ U o U' => ∃ v L, o = .returned v ∧ Q1n0 Z wPRODUCE h0 n0 v U'.heap L ∧ FrameEnd U o U' L ({ frames := 0, cells := 0, slots := 0, locals := 0 } : Room).cells ({ frames := 0, cells := 0, slots := 0, locals := 0 } : Room).slots) := by
  refine MetFree.of_bodySF (plainFor_of_name pn_1) hisR ?_
  intro p e s m args below meth c s₁ Bd hml0 hP hK
  obtain ⟨rfl, hZ, hh⟩ := hP
  have hx := Bd.exec
  have hby := Bd.bytes
  have hml : c.maxLocals = 1 := hml0
  have hown0 := findClass_of_methodNamed Bd.named
  have hown : s.vm.findClass "com/example/eurybates/eurybates/protocol/ApiKeyImplementsVersionPinLaw" = some m.cls := hown0
  have hnm := (name_of_methodNamed Bd.named Bd.method).1
  have X0 : Stand p l e ({ frames := 0, cells := 0, slots := 0, locals := 0 } : Room) s m #[(.int (0 : Int32))] below meth c s₁ [] 0 0 := Stand.of_body Bd
  have e0 : s₁.heap = h0 := by rw [← hh, Bd.state]; rfl
  have N0 := Fr.nil n0
  obtain ⟨S0, hS0⟩ : ∃ z, z = s₁.setTop (entryFrame m #[(.int (0 : Int32))] 1) := ⟨_, rfl⟩
  have pre0 : own_Go p e below S0 (s₁.setTop (mkF m 0 #[.val (.int (0 : Int32))] [])) := fun t k => by rw [hS0]; exact castTop (ef_1n0 m ) k
  have fin : ∀ t, Steps p.tables e below S0 t → Steps p.tables e below (s₁.setTop (entryFrame m #[(.int (0 : Int32))] 1)) t := fun t k => by rw [hS0] at k; exact k
  have pre1 : own_Go p e below S0 (s₁.setTop (mkF m 4 #[.val (.int (0 : Int32))] [])) := by
    intro t kt
    refine pre0 t ?_
    refine XS.iloadN X0.here hx rfl (hb hby d1_0) rfl ?_
    show Steps p.tables e below (s₁.setTop (mkF m 1 #[.val (.int (0 : Int32))] [(.int (0 : Int32))])) _
    refine XS.ifNo X0.here hx rfl (hb hby d1_1) rfl ((if0 _ _).trans (teq (by decide : (0 : Int32) = (0 : Int32))).2) ?_
    show Steps p.tables e below (s₁.setTop (mkF m 4 #[.val (.int (0 : Int32))] [])) _
    exact kt
  obtain ⟨T2, X2, e2, st2⟩ := getS2 X0 hx hZ hown (host := "") (Or.inl (hw _ (own_w 6 rfl))) Via.refl e0 (SPRODUCE.ext O0.2) (g := (mkF m 4 #[.val (.int (0 : Int32))] [])) rfl (hb hby d1_4)
  have pre3 : own_Go p e below S0 (T2.setTop (mkF m 7 #[.val (.int (0 : Int32))] [(.ref wPRODUCE)])) := by
    intro t kt
    refine pre1 t ?_
    refine st2 _ ?_
    show Steps p.tables e below (T2.setTop (mkF m 7 #[.val (.int (0 : Int32))] [(.ref wPRODUCE)])) _
    exact kt
  obtain ⟨fs, hr, hrun, hended, hW, hsame⟩ := X2.leave (v := some (.ref wPRODUCE)) (fun h => by rw [Bd.returns] at h; cases h)
  refine ⟨_, _, fin _ (pre3 _ ?_), hrun, hended, _, _, rfl, ?_, ⟨_, rfl⟩, hW, hsame.mono (by decide) (by decide)⟩
  · jvm_step X2.here [X2.here.top, hx, (hb hby d1_7), X2.method', Bd.returns, Value.isRef, FieldType.isReference]
    first | (intro acts; rw [hr _ acts rfl rfl rfl]) | rw [hr _ _ rfl rfl rfl]
    exact Steps.refl _
  · show Q1n0 Z wPRODUCE h0 n0 _ T2.heap _
    rw [e2]
    exact ⟨rfl, N0, rfl⟩

theorem d1_8 : decode method_2_code 8 = .ok (.iload_n 0, 1) := by decide +kernel
theorem d1_9 : decode method_2_code 9 = .ok (.iconst 1, 1) := by decide +kernel
theorem d1_10 : decode method_2_code 10 = .ok (.if_icmp .ne 7, 3) := by decide +kernel
theorem d1_13 : decode method_2_code 13 = .ok (.getstatic 13, 3) := by decide +kernel
theorem d1_16 : decode method_2_code 16 = .ok (.areturn, 1) := by decide +kernel
theorem ef_1n1 (m : MethodId)  : entryFrame m #[(.int (1 : Int32))] 1 = mkF m 0 #[.val (.int (1 : Int32))] [] := by first | (simp [entryFrame, mkF, argsToLocals, Value.category]; done) | rfl
def Q1n1 (Z : State) (wFETCH : Addr) (h0 : Heap) (n0 : Nat) (v : Option Value) (h : Heap) (L : List Loc) : Prop := v = (some (.ref wFETCH)) ∧ Fr n0 L ∧ h = h0
set_option maxRecDepth 65536 in
set_option maxHeartbeats 40000000 in
theorem rm1n1 (l : Launch) (Z : State) (a0 : Array Value) (hw : ∀ d ∈ tables_1, d.before a0 Z = true) (ws : List Jvm.Cond) (wFETCH : Addr) (h0 : Heap) (n0 : Nat) (Z0 : n0 ≤ h0.size) (O0 : Old Z n0 h0) (SFETCH : Sta Z Z.heap "com/example/eurybates/eurybates/protocol/ApiKey" "FETCH" "Lcom/example/eurybates/eurybates/protocol/ApiKey;" (.ref wFETCH)) :
    MetFree l (⟨"com/example/eurybates/eurybates/protocol/ApiKeyImplementsVersionPinLaw", "pick", "(I)Lcom/example/eurybates/eurybates/protocol/ApiKey;"⟩ : MethodName) (head1 (Jvm.Cond.code (⟨"com/example/eurybates/eurybates/protocol/ApiKeyImplementsVersionPinLaw", "pick", "(I)Lcom/example/eurybates/eurybates/protocol/ApiKey;"⟩ : MethodName) method_2_code 1 (some (.object "com/example/eurybates/eurybates/protocol/ApiKey")) :: ws) ({ frames := 0, cells := 0, slots := 0, locals := 0 } : Room)) (fun a U => a = #[(.int (1 : Int32))] ∧ Z.Warmed39 U.vm ∧ U.heap = h0) (fun _ _ _ _ _ => True) (fun _ U o U' => ∃ v L, o = .returned v ∧ Q1n1 Z wFETCH h0 n0 v U'.heap L ∧ FrameEnd U o U' L ({ frames := 0, cells := 0, slots := 0, locals := 0 } : Room).cells ({ frames := 0, cells := 0, slots := 0, locals := 0 } : Room).slots) := by
  refine MetFree.of_bodySF (plainFor_of_name pn_1) hisR ?_
  intro p e s m args below meth c s₁ Bd hml0 hP hK
  obtain ⟨rfl, hZ, hh⟩ := hP
  have hx := Bd.exec
  have hby := Bd.bytes
  have hml : c.maxLocals = 1 := hml0
  have hown0 := findClass_of_methodNamed Bd.named
  have hown : s.vm.findClass "com/example/eurybates/eurybates/protocol/ApiKeyImplementsVersionPinLaw" = some m.cls := hown0
  have hnm := (name_of_methodNamed Bd.named Bd.method).1
  have X0 : Stand p l e ({ frames := 0, cells := 0, slots := 0, locals := 0 } : Room) s m #[(.int (1 : Int32))] below meth c s₁ [] 0 0 := Stand.of_body Bd
  have e0 : s₁.heap = h0 := by rw [← hh, Bd.state]; rfl
  have N0 := Fr.nil n0
  obtain ⟨S0, hS0⟩ : ∃ z, z = s₁.setTop (entryFrame m #[(.int (1 : Int32))] 1) := ⟨_, rfl⟩
  have pre0 : own_Go p e below S0 (s₁.setTop (mkF m 0 #[.val (.int (1 : Int32))] [])) := fun t k => by rw [hS0]; exact castTop (ef_1n1 m ) k
  have fin : ∀ t, Steps p.tables e below S0 t → Steps p.tables e below (s₁.setTop (entryFrame m #[(.int (1 : Int32))] 1)) t := fun t k => by rw [hS0] at k; exact k
  have pre1 : own_Go p e below S0 (s₁.setTop (mkF m 13 #[.val (.int (1 : Int32))] [])) := by
    intro t kt
    refine pre0 t ?_
    refine XS.iloadN X0.here hx rfl (hb hby d1_0) rfl ?_
    show Steps p.tables e below (s₁.setTop (mkF m 1 #[.val (.int (1 : Int32))] [(.int (1 : Int32))])) _
    refine XS.ifYes X0.here hx rfl (pc0 := 1) (pc' := 8) rfl (hb hby d1_1) rfl ((if0 _ _).trans (feq (by decide : ¬ ((1 : Int32) = (0 : Int32)))).2) (by decide) (by decide) ?_
    show Steps p.tables e below (s₁.setTop (mkF m 8 #[.val (.int (1 : Int32))] [])) _
    refine XS.iloadN X0.here hx rfl (hb hby d1_8) rfl ?_
    show Steps p.tables e below (s₁.setTop (mkF m 9 #[.val (.int (1 : Int32))] [(.int (1 : Int32))])) _
    refine XS.iconst X0.here hx rfl (hb hby d1_9) ?_
    show Steps p.tables e below (s₁.setTop (mkF m 10 #[.val (.int (1 : Int32))] [(.int (1 : Int32)), (.int (1 : Int32))])) _
    refine XS.icmpNo X0.here hx rfl (hb hby d1_10) rfl (teq (by decide : (1 : Int32) = (1 : Int32))).2 ?_
    show Steps p.tables e below (s₁.setTop (mkF m 13 #[.val (.int (1 : Int32))] [])) _
    exact kt
  obtain ⟨T2, X2, e2, st2⟩ := getS2 X0 hx hZ hown (host := "") (Or.inl (hw _ (own_w 22 rfl))) Via.refl e0 (SFETCH.ext O0.2) (g := (mkF m 13 #[.val (.int (1 : Int32))] [])) rfl (hb hby d1_13)
  have pre3 : own_Go p e below S0 (T2.setTop (mkF m 16 #[.val (.int (1 : Int32))] [(.ref wFETCH)])) := by
    intro t kt
    refine pre1 t ?_
    refine st2 _ ?_
    show Steps p.tables e below (T2.setTop (mkF m 16 #[.val (.int (1 : Int32))] [(.ref wFETCH)])) _
    exact kt
  obtain ⟨fs, hr, hrun, hended, hW, hsame⟩ := X2.leave (v := some (.ref wFETCH)) (fun h => by rw [Bd.returns] at h; cases h)
  refine ⟨_, _, fin _ (pre3 _ ?_), hrun, hended, _, _, rfl, ?_, ⟨_, rfl⟩, hW, hsame.mono (by decide) (by decide)⟩
  · jvm_step X2.here [X2.here.top, hx, (hb hby d1_16), X2.method', Bd.returns, Value.isRef, FieldType.isReference]
    first | (intro acts; rw [hr _ acts rfl rfl rfl]) | rw [hr _ _ rfl rfl rfl]
    exact Steps.refl _
  · show Q1n1 Z wFETCH h0 n0 _ T2.heap _
    rw [e2]
    exact ⟨rfl, N0, rfl⟩

theorem d1_17 : decode method_2_code 17 = .ok (.iload_n 0, 1) := by decide +kernel
theorem d1_18 : decode method_2_code 18 = .ok (.iconst 2, 1) := by decide +kernel
theorem d1_19 : decode method_2_code 19 = .ok (.if_icmp .ne 7, 3) := by decide +kernel
theorem d1_22 : decode method_2_code 22 = .ok (.getstatic 16, 3) := by decide +kernel
theorem d1_25 : decode method_2_code 25 = .ok (.areturn, 1) := by decide +kernel
theorem ef_1n2 (m : MethodId)  : entryFrame m #[(.int (2 : Int32))] 1 = mkF m 0 #[.val (.int (2 : Int32))] [] := by first | (simp [entryFrame, mkF, argsToLocals, Value.category]; done) | rfl
def Q1n2 (Z : State) (wLIST_OFFSETS : Addr) (h0 : Heap) (n0 : Nat) (v : Option Value) (h : Heap) (L : List Loc) : Prop := v = (some (.ref wLIST_OFFSETS)) ∧ Fr n0 L ∧ h = h0
set_option maxRecDepth 65536 in
set_option maxHeartbeats 40000000 in
theorem rm1n2 (l : Launch) (Z : State) (a0 : Array Value) (hw : ∀ d ∈ tables_1, d.before a0 Z = true) (ws : List Jvm.Cond) (wLIST_OFFSETS : Addr) (h0 : Heap) (n0 : Nat) (Z0 : n0 ≤ h0.size) (O0 : Old Z n0 h0) (SLIST_OFFSETS : Sta Z Z.heap "com/example/eurybates/eurybates/protocol/ApiKey" "LIST_OFFSETS" "Lcom/example/eurybates/eurybates/protocol/ApiKey;" (.ref wLIST_OFFSETS)) :
    MetFree l (⟨"com/example/eurybates/eurybates/protocol/ApiKeyImplementsVersionPinLaw", "pick", "(I)Lcom/example/eurybates/eurybates/protocol/ApiKey;"⟩ : MethodName) (head1 (Jvm.Cond.code (⟨"com/example/eurybates/eurybates/protocol/ApiKeyImplementsVersionPinLaw", "pick", "(I)Lcom/example/eurybates/eurybates/protocol/ApiKey;"⟩ : MethodName) method_2_code 1 (some (.object "com/example/eurybates/eurybates/protocol/ApiKey")) :: ws) ({ frames := 0, cells := 0, slots := 0, locals := 0 } : Room)) (fun a U => a = #[(.int (2 : Int32))] ∧ Z.Warmed39 U.vm ∧ U.heap = h0) (fun _ _ _ _ _ => True) (fun _ U o U' => ∃ v L, o = .returned v ∧ Q1n2 Z wLIST_OFFSETS h0 n0 v U'.heap L ∧ FrameEnd U o U' L ({ frames := 0, cells := 0, slots := 0, locals := 0 } : Room).cells ({ frames := 0, cells := 0, slots := 0, locals := 0 } : Room).slots) := by
  refine MetFree.of_bodySF (plainFor_of_name pn_1) hisR ?_
  intro p e s m args below meth c s₁ Bd hml0 hP hK
  obtain ⟨rfl, hZ, hh⟩ := hP
  have hx := Bd.exec
  have hby := Bd.bytes
  have hml : c.maxLocals = 1 := hml0
  have hown0 := findClass_of_methodNamed Bd.named
  have hown : s.vm.findClass "com/example/eurybates/eurybates/protocol/ApiKeyImplementsVersionPinLaw" = some m.cls := hown0
  have hnm := (name_of_methodNamed Bd.named Bd.method).1
  have X0 : Stand p l e ({ frames := 0, cells := 0, slots := 0, locals := 0 } : Room) s m #[(.int (2 : Int32))] below meth c s₁ [] 0 0 := Stand.of_body Bd
  have e0 : s₁.heap = h0 := by rw [← hh, Bd.state]; rfl
  have N0 := Fr.nil n0
  obtain ⟨S0, hS0⟩ : ∃ z, z = s₁.setTop (entryFrame m #[(.int (2 : Int32))] 1) := ⟨_, rfl⟩
  have pre0 : own_Go p e below S0 (s₁.setTop (mkF m 0 #[.val (.int (2 : Int32))] [])) := fun t k => by rw [hS0]; exact castTop (ef_1n2 m ) k
  have fin : ∀ t, Steps p.tables e below S0 t → Steps p.tables e below (s₁.setTop (entryFrame m #[(.int (2 : Int32))] 1)) t := fun t k => by rw [hS0] at k; exact k
  have pre1 : own_Go p e below S0 (s₁.setTop (mkF m 22 #[.val (.int (2 : Int32))] [])) := by
    intro t kt
    refine pre0 t ?_
    refine XS.iloadN X0.here hx rfl (hb hby d1_0) rfl ?_
    show Steps p.tables e below (s₁.setTop (mkF m 1 #[.val (.int (2 : Int32))] [(.int (2 : Int32))])) _
    refine XS.ifYes X0.here hx rfl (pc0 := 1) (pc' := 8) rfl (hb hby d1_1) rfl ((if0 _ _).trans (feq (by decide : ¬ ((2 : Int32) = (0 : Int32)))).2) (by decide) (by decide) ?_
    show Steps p.tables e below (s₁.setTop (mkF m 8 #[.val (.int (2 : Int32))] [])) _
    refine XS.iloadN X0.here hx rfl (hb hby d1_8) rfl ?_
    show Steps p.tables e below (s₁.setTop (mkF m 9 #[.val (.int (2 : Int32))] [(.int (2 : Int32))])) _
    refine XS.iconst X0.here hx rfl (hb hby d1_9) ?_
    show Steps p.tables e below (s₁.setTop (mkF m 10 #[.val (.int (2 : Int32))] [(.int (1 : Int32)), (.int (2 : Int32))])) _
    refine XS.icmpYes X0.here hx rfl (pc0 := 10) (pc' := 17) rfl (hb hby d1_10) rfl (feq (by decide : ¬ ((2 : Int32) = (1 : Int32)))).2 (by decide) (by decide) ?_
    show Steps p.tables e below (s₁.setTop (mkF m 17 #[.val (.int (2 : Int32))] [])) _
    refine XS.iloadN X0.here hx rfl (hb hby d1_17) rfl ?_
    show Steps p.tables e below (s₁.setTop (mkF m 18 #[.val (.int (2 : Int32))] [(.int (2 : Int32))])) _
    refine XS.iconst X0.here hx rfl (hb hby d1_18) ?_
    show Steps p.tables e below (s₁.setTop (mkF m 19 #[.val (.int (2 : Int32))] [(.int (2 : Int32)), (.int (2 : Int32))])) _
    refine XS.icmpNo X0.here hx rfl (hb hby d1_19) rfl (teq (by decide : (2 : Int32) = (2 : Int32))).2 ?_
    show Steps p.tables e below (s₁.setTop (mkF m 22 #[.val (.int (2 : Int32))] [])) _
    exact kt
  obtain ⟨T2, X2, e2, st2⟩ := getS2 X0 hx hZ hown (host := "") (Or.inl (hw _ (own_w 40 rfl))) Via.refl e0 (SLIST_OFFSETS.ext O0.2) (g := (mkF m 22 #[.val (.int (2 : Int32))] [])) rfl (hb hby d1_22)
  have pre3 : own_Go p e below S0 (T2.setTop (mkF m 25 #[.val (.int (2 : Int32))] [(.ref wLIST_OFFSETS)])) := by
    intro t kt
    refine pre1 t ?_
    refine st2 _ ?_
    show Steps p.tables e below (T2.setTop (mkF m 25 #[.val (.int (2 : Int32))] [(.ref wLIST_OFFSETS)])) _
    exact kt
  obtain ⟨fs, hr, hrun, hended, hW, hsame⟩ := X2.leave (v := some (.ref wLIST_OFFSETS)) (fun h => by rw [Bd.returns] at h; cases h)
  refine ⟨_, _, fin _ (pre3 _ ?_), hrun, hended, _, _, rfl, ?_, ⟨_, rfl⟩, hW, hsame.mono (by decide) (by decide)⟩
  · jvm_step X2.here [X2.here.top, hx, (hb hby d1_25), X2.method', Bd.returns, Value.isRef, FieldType.isReference]
    first | (intro acts; rw [hr _ acts rfl rfl rfl]) | rw [hr _ _ rfl rfl rfl]
    exact Steps.refl _
  · show Q1n2 Z wLIST_OFFSETS h0 n0 _ T2.heap _
    rw [e2]
    exact ⟨rfl, N0, rfl⟩

theorem d1_26 : decode method_2_code 26 = .ok (.iload_n 0, 1) := by decide +kernel
theorem d1_27 : decode method_2_code 27 = .ok (.iconst 3, 1) := by decide +kernel
theorem d1_28 : decode method_2_code 28 = .ok (.if_icmp .ne 7, 3) := by decide +kernel
theorem d1_31 : decode method_2_code 31 = .ok (.getstatic 19, 3) := by decide +kernel
theorem d1_34 : decode method_2_code 34 = .ok (.areturn, 1) := by decide +kernel
theorem ef_1n3 (m : MethodId)  : entryFrame m #[(.int (3 : Int32))] 1 = mkF m 0 #[.val (.int (3 : Int32))] [] := by first | (simp [entryFrame, mkF, argsToLocals, Value.category]; done) | rfl
def Q1n3 (Z : State) (wMETADATA : Addr) (h0 : Heap) (n0 : Nat) (v : Option Value) (h : Heap) (L : List Loc) : Prop := v = (some (.ref wMETADATA)) ∧ Fr n0 L ∧ h = h0
set_option maxRecDepth 65536 in
set_option maxHeartbeats 40000000 in
theorem rm1n3 (l : Launch) (Z : State) (a0 : Array Value) (hw : ∀ d ∈ tables_1, d.before a0 Z = true) (ws : List Jvm.Cond) (wMETADATA : Addr) (h0 : Heap) (n0 : Nat) (Z0 : n0 ≤ h0.size) (O0 : Old Z n0 h0) (SMETADATA : Sta Z Z.heap "com/example/eurybates/eurybates/protocol/ApiKey" "METADATA" "Lcom/example/eurybates/eurybates/protocol/ApiKey;" (.ref wMETADATA)) :
    MetFree l (⟨"com/example/eurybates/eurybates/protocol/ApiKeyImplementsVersionPinLaw", "pick", "(I)Lcom/example/eurybates/eurybates/protocol/ApiKey;"⟩ : MethodName) (head1 (Jvm.Cond.code (⟨"com/example/eurybates/eurybates/protocol/ApiKeyImplementsVersionPinLaw", "pick", "(I)Lcom/example/eurybates/eurybates/protocol/ApiKey;"⟩ : MethodName) method_2_code 1 (some (.object "com/example/eurybates/eurybates/protocol/ApiKey")) :: ws) ({ frames := 0, cells := 0, slots := 0, locals := 0 } : Room)) (fun a U => a = #[(.int (3 : Int32))] ∧ Z.Warmed39 U.vm ∧ U.heap = h0) (fun _ _ _ _ _ => True) (fun _ U o U' => ∃ v L, o = .returned v ∧ Q1n3 Z wMETADATA h0 n0 v U'.heap L ∧ FrameEnd U o U' L ({ frames := 0, cells := 0, slots := 0, locals := 0 } : Room).cells ({ frames := 0, cells := 0, slots := 0, locals := 0 } : Room).slots) := by
  refine MetFree.of_bodySF (plainFor_of_name pn_1) hisR ?_
  intro p e s m args below meth c s₁ Bd hml0 hP hK
  obtain ⟨rfl, hZ, hh⟩ := hP
  have hx := Bd.exec
  have hby := Bd.bytes
  have hml : c.maxLocals = 1 := hml0
  have hown0 := findClass_of_methodNamed Bd.named
  have hown : s.vm.findClass "com/example/eurybates/eurybates/protocol/ApiKeyImplementsVersionPinLaw" = some m.cls := hown0
  have hnm := (name_of_methodNamed Bd.named Bd.method).1
  have X0 : Stand p l e ({ frames := 0, cells := 0, slots := 0, locals := 0 } : Room) s m #[(.int (3 : Int32))] below meth c s₁ [] 0 0 := Stand.of_body Bd
  have e0 : s₁.heap = h0 := by rw [← hh, Bd.state]; rfl
  have N0 := Fr.nil n0
  obtain ⟨S0, hS0⟩ : ∃ z, z = s₁.setTop (entryFrame m #[(.int (3 : Int32))] 1) := ⟨_, rfl⟩
  have pre0 : own_Go p e below S0 (s₁.setTop (mkF m 0 #[.val (.int (3 : Int32))] [])) := fun t k => by rw [hS0]; exact castTop (ef_1n3 m ) k
  have fin : ∀ t, Steps p.tables e below S0 t → Steps p.tables e below (s₁.setTop (entryFrame m #[(.int (3 : Int32))] 1)) t := fun t k => by rw [hS0] at k; exact k
  have pre1 : own_Go p e below S0 (s₁.setTop (mkF m 31 #[.val (.int (3 : Int32))] [])) := by
    intro t kt
    refine pre0 t ?_
    refine XS.iloadN X0.here hx rfl (hb hby d1_0) rfl ?_
    show Steps p.tables e below (s₁.setTop (mkF m 1 #[.val (.int (3 : Int32))] [(.int (3 : Int32))])) _
    refine XS.ifYes X0.here hx rfl (pc0 := 1) (pc' := 8) rfl (hb hby d1_1) rfl ((if0 _ _).trans (feq (by decide : ¬ ((3 : Int32) = (0 : Int32)))).2) (by decide) (by decide) ?_
    show Steps p.tables e below (s₁.setTop (mkF m 8 #[.val (.int (3 : Int32))] [])) _
    refine XS.iloadN X0.here hx rfl (hb hby d1_8) rfl ?_
    show Steps p.tables e below (s₁.setTop (mkF m 9 #[.val (.int (3 : Int32))] [(.int (3 : Int32))])) _
    refine XS.iconst X0.here hx rfl (hb hby d1_9) ?_
    show Steps p.tables e below (s₁.setTop (mkF m 10 #[.val (.int (3 : Int32))] [(.int (1 : Int32)), (.int (3 : Int32))])) _
    refine XS.icmpYes X0.here hx rfl (pc0 := 10) (pc' := 17) rfl (hb hby d1_10) rfl (feq (by decide : ¬ ((3 : Int32) = (1 : Int32)))).2 (by decide) (by decide) ?_
    show Steps p.tables e below (s₁.setTop (mkF m 17 #[.val (.int (3 : Int32))] [])) _
    refine XS.iloadN X0.here hx rfl (hb hby d1_17) rfl ?_
    show Steps p.tables e below (s₁.setTop (mkF m 18 #[.val (.int (3 : Int32))] [(.int (3 : Int32))])) _
    refine XS.iconst X0.here hx rfl (hb hby d1_18) ?_
    show Steps p.tables e below (s₁.setTop (mkF m 19 #[.val (.int (3 : Int32))] [(.int (2 : Int32)), (.int (3 : Int32))])) _
    refine XS.icmpYes X0.here hx rfl (pc0 := 19) (pc' := 26) rfl (hb hby d1_19) rfl (feq (by decide : ¬ ((3 : Int32) = (2 : Int32)))).2 (by decide) (by decide) ?_
    show Steps p.tables e below (s₁.setTop (mkF m 26 #[.val (.int (3 : Int32))] [])) _
    refine XS.iloadN X0.here hx rfl (hb hby d1_26) rfl ?_
    show Steps p.tables e below (s₁.setTop (mkF m 27 #[.val (.int (3 : Int32))] [(.int (3 : Int32))])) _
    refine XS.iconst X0.here hx rfl (hb hby d1_27) ?_
    show Steps p.tables e below (s₁.setTop (mkF m 28 #[.val (.int (3 : Int32))] [(.int (3 : Int32)), (.int (3 : Int32))])) _
    refine XS.icmpNo X0.here hx rfl (hb hby d1_28) rfl (teq (by decide : (3 : Int32) = (3 : Int32))).2 ?_
    show Steps p.tables e below (s₁.setTop (mkF m 31 #[.val (.int (3 : Int32))] [])) _
    exact kt
  obtain ⟨T2, X2, e2, st2⟩ := getS2 X0 hx hZ hown (host := "") (Or.inl (hw _ (own_w 32 rfl))) Via.refl e0 (SMETADATA.ext O0.2) (g := (mkF m 31 #[.val (.int (3 : Int32))] [])) rfl (hb hby d1_31)
  have pre3 : own_Go p e below S0 (T2.setTop (mkF m 34 #[.val (.int (3 : Int32))] [(.ref wMETADATA)])) := by
    intro t kt
    refine pre1 t ?_
    refine st2 _ ?_
    show Steps p.tables e below (T2.setTop (mkF m 34 #[.val (.int (3 : Int32))] [(.ref wMETADATA)])) _
    exact kt
  obtain ⟨fs, hr, hrun, hended, hW, hsame⟩ := X2.leave (v := some (.ref wMETADATA)) (fun h => by rw [Bd.returns] at h; cases h)
  refine ⟨_, _, fin _ (pre3 _ ?_), hrun, hended, _, _, rfl, ?_, ⟨_, rfl⟩, hW, hsame.mono (by decide) (by decide)⟩
  · jvm_step X2.here [X2.here.top, hx, (hb hby d1_34), X2.method', Bd.returns, Value.isRef, FieldType.isReference]
    first | (intro acts; rw [hr _ acts rfl rfl rfl]) | rw [hr _ _ rfl rfl rfl]
    exact Steps.refl _
  · show Q1n3 Z wMETADATA h0 n0 _ T2.heap _
    rw [e2]
    exact ⟨rfl, N0, rfl⟩

theorem d1_35 : decode method_2_code 35 = .ok (.iload_n 0, 1) := by decide +kernel
theorem d1_36 : decode method_2_code 36 = .ok (.iconst 4, 1) := by decide +kernel
theorem d1_37 : decode method_2_code 37 = .ok (.if_icmp .ne 7, 3) := by decide +kernel
theorem d1_40 : decode method_2_code 40 = .ok (.getstatic 22, 3) := by decide +kernel
theorem d1_43 : decode method_2_code 43 = .ok (.areturn, 1) := by decide +kernel
theorem ef_1n4 (m : MethodId)  : entryFrame m #[(.int (4 : Int32))] 1 = mkF m 0 #[.val (.int (4 : Int32))] [] := by first | (simp [entryFrame, mkF, argsToLocals, Value.category]; done) | rfl
def Q1n4 (Z : State) (wOFFSET_COMMIT : Addr) (h0 : Heap) (n0 : Nat) (v : Option Value) (h : Heap) (L : List Loc) : Prop := v = (some (.ref wOFFSET_COMMIT)) ∧ Fr n0 L ∧ h = h0
set_option maxRecDepth 65536 in
set_option maxHeartbeats 40000000 in
theorem rm1n4 (l : Launch) (Z : State) (a0 : Array Value) (hw : ∀ d ∈ tables_1, d.before a0 Z = true) (ws : List Jvm.Cond) (wOFFSET_COMMIT : Addr) (h0 : Heap) (n0 : Nat) (Z0 : n0 ≤ h0.size) (O0 : Old Z n0 h0) (SOFFSET_COMMIT : Sta Z Z.heap "com/example/eurybates/eurybates/protocol/ApiKey" "OFFSET_COMMIT" "Lcom/example/eurybates/eurybates/protocol/ApiKey;" (.ref wOFFSET_COMMIT)) :
    MetFree l (⟨"com/example/eurybates/eurybates/protocol/ApiKeyImplementsVersionPinLaw", "pick", "(I)Lcom/example/eurybates/eurybates/protocol/ApiKey;"⟩ : MethodName) (head1 (Jvm.Cond.code (⟨"com/example/eurybates/eurybates/protocol/ApiKeyImplementsVersionPinLaw", "pick", "(I)Lcom/example/eurybates/eurybates/protocol/ApiKey;"⟩ : MethodName) method_2_code 1 (some (.object "com/example/eurybates/eurybates/protocol/ApiKey")) :: ws) ({ frames := 0, cells := 0, slots := 0, locals := 0 } : Room)) (fun a U => a = #[(.int (4 : Int32))] ∧ Z.Warmed39 U.vm ∧ U.heap = h0) (fun _ _ _ _ _ => True) (fun _ U o U' => ∃ v L, o = .returned v ∧ Q1n4 Z wOFFSET_COMMIT h0 n0 v U'.heap L ∧ FrameEnd U o U' L ({ frames := 0, cells := 0, slots := 0, locals := 0 } : Room).cells ({ frames := 0, cells := 0, slots := 0, locals := 0 } : Room).slots) := by
  refine MetFree.of_bodySF (plainFor_of_name pn_1) hisR ?_
  intro p e s m args below meth c s₁ Bd hml0 hP hK
  obtain ⟨rfl, hZ, hh⟩ := hP
  have hx := Bd.exec
  have hby := Bd.bytes
  have hml : c.maxLocals = 1 := hml0
  have hown0 := findClass_of_methodNamed Bd.named
  have hown : s.vm.findClass "com/example/eurybates/eurybates/protocol/ApiKeyImplementsVersionPinLaw" = some m.cls := hown0
  have hnm := (name_of_methodNamed Bd.named Bd.method).1
  have X0 : Stand p l e ({ frames := 0, cells := 0, slots := 0, locals := 0 } : Room) s m #[(.int (4 : Int32))] below meth c s₁ [] 0 0 := Stand.of_body Bd
  have e0 : s₁.heap = h0 := by rw [← hh, Bd.state]; rfl
  have N0 := Fr.nil n0
  obtain ⟨S0, hS0⟩ : ∃ z, z = s₁.setTop (entryFrame m #[(.int (4 : Int32))] 1) := ⟨_, rfl⟩
  have pre0 : own_Go p e below S0 (s₁.setTop (mkF m 0 #[.val (.int (4 : Int32))] [])) := fun t k => by rw [hS0]; exact castTop (ef_1n4 m ) k
  have fin : ∀ t, Steps p.tables e below S0 t → Steps p.tables e below (s₁.setTop (entryFrame m #[(.int (4 : Int32))] 1)) t := fun t k => by rw [hS0] at k; exact k
  have pre1 : own_Go p e below S0 (s₁.setTop (mkF m 40 #[.val (.int (4 : Int32))] [])) := by
    intro t kt
    refine pre0 t ?_
    refine XS.iloadN X0.here hx rfl (hb hby d1_0) rfl ?_
    show Steps p.tables e below (s₁.setTop (mkF m 1 #[.val (.int (4 : Int32))] [(.int (4 : Int32))])) _
    refine XS.ifYes X0.here hx rfl (pc0 := 1) (pc' := 8) rfl (hb hby d1_1) rfl ((if0 _ _).trans (feq (by decide : ¬ ((4 : Int32) = (0 : Int32)))).2) (by decide) (by decide) ?_
    show Steps p.tables e below (s₁.setTop (mkF m 8 #[.val (.int (4 : Int32))] [])) _
    refine XS.iloadN X0.here hx rfl (hb hby d1_8) rfl ?_
    show Steps p.tables e below (s₁.setTop (mkF m 9 #[.val (.int (4 : Int32))] [(.int (4 : Int32))])) _
    refine XS.iconst X0.here hx rfl (hb hby d1_9) ?_
    show Steps p.tables e below (s₁.setTop (mkF m 10 #[.val (.int (4 : Int32))] [(.int (1 : Int32)), (.int (4 : Int32))])) _
    refine XS.icmpYes X0.here hx rfl (pc0 := 10) (pc' := 17) rfl (hb hby d1_10) rfl (feq (by decide : ¬ ((4 : Int32) = (1 : Int32)))).2 (by decide) (by decide) ?_
    show Steps p.tables e below (s₁.setTop (mkF m 17 #[.val (.int (4 : Int32))] [])) _
    refine XS.iloadN X0.here hx rfl (hb hby d1_17) rfl ?_
    show Steps p.tables e below (s₁.setTop (mkF m 18 #[.val (.int (4 : Int32))] [(.int (4 : Int32))])) _
    refine XS.iconst X0.here hx rfl (hb hby d1_18) ?_
    show Steps p.tables e below (s₁.setTop (mkF m 19 #[.val (.int (4 : Int32))] [(.int (2 : Int32)), (.int (4 : Int32))])) _
    refine XS.icmpYes X0.here hx rfl (pc0 := 19) (pc' := 26) rfl (hb hby d1_19) rfl (feq (by decide : ¬ ((4 : Int32) = (2 : Int32)))).2 (by decide) (by decide) ?_
    show Steps p.tables e below (s₁.setTop (mkF m 26 #[.val (.int (4 : Int32))] [])) _
    refine XS.iloadN X0.here hx rfl (hb hby d1_26) rfl ?_
    show Steps p.tables e below (s₁.setTop (mkF m 27 #[.val (.int (4 : Int32))] [(.int (4 : Int32))])) _
    refine XS.iconst X0.here hx rfl (hb hby d1_27) ?_
    show Steps p.tables e below (s₁.setTop (mkF m 28 #[.val (.int (4 : Int32))] [(.int (3 : Int32)), (.int (4 : Int32))])) _
    refine XS.icmpYes X0.here hx rfl (pc0 := 28) (pc' := 35) rfl (hb hby d1_28) rfl (feq (by decide : ¬ ((4 : Int32) = (3 : Int32)))).2 (by decide) (by decide) ?_
    show Steps p.tables e below (s₁.setTop (mkF m 35 #[.val (.int (4 : Int32))] [])) _
    refine XS.iloadN X0.here hx rfl (hb hby d1_35) rfl ?_
    show Steps p.tables e below (s₁.setTop (mkF m 36 #[.val (.int (4 : Int32))] [(.int (4 : Int32))])) _
    refine XS.iconst X0.here hx rfl (hb hby d1_36) ?_
    show Steps p.tables e below (s₁.setTop (mkF m 37 #[.val (.int (4 : Int32))] [(.int (4 : Int32)), (.int (4 : Int32))])) _
    refine XS.icmpNo X0.here hx rfl (hb hby d1_37) rfl (teq (by decide : (4 : Int32) = (4 : Int32))).2 ?_
    show Steps p.tables e below (s₁.setTop (mkF m 40 #[.val (.int (4 : Int32))] [])) _
    exact kt
  obtain ⟨T2, X2, e2, st2⟩ := getS2 X0 hx hZ hown (host := "") (Or.inl (hw _ (own_w 20 rfl))) Via.refl e0 (SOFFSET_COMMIT.ext O0.2) (g := (mkF m 40 #[.val (.int (4 : Int32))] [])) rfl (hb hby d1_40)
  have pre3 : own_Go p e below S0 (T2.setTop (mkF m 43 #[.val (.int (4 : Int32))] [(.ref wOFFSET_COMMIT)])) := by
    intro t kt
    refine pre1 t ?_
    refine st2 _ ?_
    show Steps p.tables e below (T2.setTop (mkF m 43 #[.val (.int (4 : Int32))] [(.ref wOFFSET_COMMIT)])) _
    exact kt
  obtain ⟨fs, hr, hrun, hended, hW, hsame⟩ := X2.leave (v := some (.ref wOFFSET_COMMIT)) (fun h => by rw [Bd.returns] at h; cases h)
  refine ⟨_, _, fin _ (pre3 _ ?_), hrun, hended, _, _, rfl, ?_, ⟨_, rfl⟩, hW, hsame.mono (by decide) (by decide)⟩
  · jvm_step X2.here [X2.here.top, hx, (hb hby d1_43), X2.method', Bd.returns, Value.isRef, FieldType.isReference]
    first | (intro acts; rw [hr _ acts rfl rfl rfl]) | rw [hr _ _ rfl rfl rfl]
    exact Steps.refl _
  · show Q1n4 Z wOFFSET_COMMIT h0 n0 _ T2.heap _
    rw [e2]
    exact ⟨rfl, N0, rfl⟩

theorem d1_44 : decode method_2_code 44 = .ok (.iload_n 0, 1) := by decide +kernel
theorem d1_45 : decode method_2_code 45 = .ok (.iconst 5, 1) := by decide +kernel
theorem d1_46 : decode method_2_code 46 = .ok (.if_icmp .ne 7, 3) := by decide +kernel
theorem d1_49 : decode method_2_code 49 = .ok (.getstatic 25, 3) := by decide +kernel
theorem d1_52 : decode method_2_code 52 = .ok (.areturn, 1) := by decide +kernel
theorem ef_1n5 (m : MethodId)  : entryFrame m #[(.int (5 : Int32))] 1 = mkF m 0 #[.val (.int (5 : Int32))] [] := by first | (simp [entryFrame, mkF, argsToLocals, Value.category]; done) | rfl
def Q1n5 (Z : State) (wOFFSET_FETCH : Addr) (h0 : Heap) (n0 : Nat) (v : Option Value) (h : Heap) (L : List Loc) : Prop := v = (some (.ref wOFFSET_FETCH)) ∧ Fr n0 L ∧ h = h0
set_option maxRecDepth 65536 in
set_option maxHeartbeats 40000000 in
theorem rm1n5 (l : Launch) (Z : State) (a0 : Array Value) (hw : ∀ d ∈ tables_1, d.before a0 Z = true) (ws : List Jvm.Cond) (wOFFSET_FETCH : Addr) (h0 : Heap) (n0 : Nat) (Z0 : n0 ≤ h0.size) (O0 : Old Z n0 h0) (SOFFSET_FETCH : Sta Z Z.heap "com/example/eurybates/eurybates/protocol/ApiKey" "OFFSET_FETCH" "Lcom/example/eurybates/eurybates/protocol/ApiKey;" (.ref wOFFSET_FETCH)) :
    MetFree l (⟨"com/example/eurybates/eurybates/protocol/ApiKeyImplementsVersionPinLaw", "pick", "(I)Lcom/example/eurybates/eurybates/protocol/ApiKey;"⟩ : MethodName) (head1 (Jvm.Cond.code (⟨"com/example/eurybates/eurybates/protocol/ApiKeyImplementsVersionPinLaw", "pick", "(I)Lcom/example/eurybates/eurybates/protocol/ApiKey;"⟩ : MethodName) method_2_code 1 (some (.object "com/example/eurybates/eurybates/protocol/ApiKey")) :: ws) ({ frames := 0, cells := 0, slots := 0, locals := 0 } : Room)) (fun a U => a = #[(.int (5 : Int32))] ∧ Z.Warmed39 U.vm ∧ U.heap = h0) (fun _ _ _ _ _ => True) (fun _ U o U' => ∃ v L, o = .returned v ∧ Q1n5 Z wOFFSET_FETCH h0 n0 v U'.heap L ∧ FrameEnd U o U' L ({ frames := 0, cells := 0, slots := 0, locals := 0 } : Room).cells ({ frames := 0, cells := 0, slots := 0, locals := 0 } : Room).slots) := by
  refine MetFree.of_bodySF (plainFor_of_name pn_1) hisR ?_
  intro p e s m args below meth c s₁ Bd hml0 hP hK
  obtain ⟨rfl, hZ, hh⟩ := hP
  have hx := Bd.exec
  have hby := Bd.bytes
  have hml : c.maxLocals = 1 := hml0
  have hown0 := findClass_of_methodNamed Bd.named
  have hown : s.vm.findClass "com/example/eurybates/eurybates/protocol/ApiKeyImplementsVersionPinLaw" = some m.cls := hown0
  have hnm := (name_of_methodNamed Bd.named Bd.method).1
  have X0 : Stand p l e ({ frames := 0, cells := 0, slots := 0, locals := 0 } : Room) s m #[(.int (5 : Int32))] below meth c s₁ [] 0 0 := Stand.of_body Bd
  have e0 : s₁.heap = h0 := by rw [← hh, Bd.state]; rfl
  have N0 := Fr.nil n0
  obtain ⟨S0, hS0⟩ : ∃ z, z = s₁.setTop (entryFrame m #[(.int (5 : Int32))] 1) := ⟨_, rfl⟩
  have pre0 : own_Go p e below S0 (s₁.setTop (mkF m 0 #[.val (.int (5 : Int32))] [])) := fun t k => by rw [hS0]; exact castTop (ef_1n5 m ) k
  have fin : ∀ t, Steps p.tables e below S0 t → Steps p.tables e below (s₁.setTop (entryFrame m #[(.int (5 : Int32))] 1)) t := fun t k => by rw [hS0] at k; exact k
  have pre1 : own_Go p e below S0 (s₁.setTop (mkF m 49 #[.val (.int (5 : Int32))] [])) := by
    intro t kt
    refine pre0 t ?_
    refine XS.iloadN X0.here hx rfl (hb hby d1_0) rfl ?_
    show Steps p.tables e below (s₁.setTop (mkF m 1 #[.val (.int (5 : Int32))] [(.int (5 : Int32))])) _
    refine XS.ifYes X0.here hx rfl (pc0 := 1) (pc' := 8) rfl (hb hby d1_1) rfl ((if0 _ _).trans (feq (by decide : ¬ ((5 : Int32) = (0 : Int32)))).2) (by decide) (by decide) ?_
    show Steps p.tables e below (s₁.setTop (mkF m 8 #[.val (.int (5 : Int32))] [])) _
    refine XS.iloadN X0.here hx rfl (hb hby d1_8) rfl ?_
    show Steps p.tables e below (s₁.setTop (mkF m 9 #[.val (.int (5 : Int32))] [(.int (5 : Int32))])) _
    refine XS.iconst X0.here hx rfl (hb hby d1_9) ?_
    show Steps p.tables e below (s₁.setTop (mkF m 10 #[.val (.int (5 : Int32))] [(.int (1 : Int32)), (.int (5 : Int32))])) _
    refine XS.icmpYes X0.here hx rfl (pc0 := 10) (pc' := 17) rfl (hb hby d1_10) rfl (feq (by decide : ¬ ((5 : Int32) = (1 : Int32)))).2 (by decide) (by decide) ?_
    show Steps p.tables e below (s₁.setTop (mkF m 17 #[.val (.int (5 : Int32))] [])) _
    refine XS.iloadN X0.here hx rfl (hb hby d1_17) rfl ?_
    show Steps p.tables e below (s₁.setTop (mkF m 18 #[.val (.int (5 : Int32))] [(.int (5 : Int32))])) _
    refine XS.iconst X0.here hx rfl (hb hby d1_18) ?_
    show Steps p.tables e below (s₁.setTop (mkF m 19 #[.val (.int (5 : Int32))] [(.int (2 : Int32)), (.int (5 : Int32))])) _
    refine XS.icmpYes X0.here hx rfl (pc0 := 19) (pc' := 26) rfl (hb hby d1_19) rfl (feq (by decide : ¬ ((5 : Int32) = (2 : Int32)))).2 (by decide) (by decide) ?_
    show Steps p.tables e below (s₁.setTop (mkF m 26 #[.val (.int (5 : Int32))] [])) _
    refine XS.iloadN X0.here hx rfl (hb hby d1_26) rfl ?_
    show Steps p.tables e below (s₁.setTop (mkF m 27 #[.val (.int (5 : Int32))] [(.int (5 : Int32))])) _
    refine XS.iconst X0.here hx rfl (hb hby d1_27) ?_
    show Steps p.tables e below (s₁.setTop (mkF m 28 #[.val (.int (5 : Int32))] [(.int (3 : Int32)), (.int (5 : Int32))])) _
    refine XS.icmpYes X0.here hx rfl (pc0 := 28) (pc' := 35) rfl (hb hby d1_28) rfl (feq (by decide : ¬ ((5 : Int32) = (3 : Int32)))).2 (by decide) (by decide) ?_
    show Steps p.tables e below (s₁.setTop (mkF m 35 #[.val (.int (5 : Int32))] [])) _
    refine XS.iloadN X0.here hx rfl (hb hby d1_35) rfl ?_
    show Steps p.tables e below (s₁.setTop (mkF m 36 #[.val (.int (5 : Int32))] [(.int (5 : Int32))])) _
    refine XS.iconst X0.here hx rfl (hb hby d1_36) ?_
    show Steps p.tables e below (s₁.setTop (mkF m 37 #[.val (.int (5 : Int32))] [(.int (4 : Int32)), (.int (5 : Int32))])) _
    refine XS.icmpYes X0.here hx rfl (pc0 := 37) (pc' := 44) rfl (hb hby d1_37) rfl (feq (by decide : ¬ ((5 : Int32) = (4 : Int32)))).2 (by decide) (by decide) ?_
    show Steps p.tables e below (s₁.setTop (mkF m 44 #[.val (.int (5 : Int32))] [])) _
    refine XS.iloadN X0.here hx rfl (hb hby d1_44) rfl ?_
    show Steps p.tables e below (s₁.setTop (mkF m 45 #[.val (.int (5 : Int32))] [(.int (5 : Int32))])) _
    refine XS.iconst X0.here hx rfl (hb hby d1_45) ?_
    show Steps p.tables e below (s₁.setTop (mkF m 46 #[.val (.int (5 : Int32))] [(.int (5 : Int32)), (.int (5 : Int32))])) _
    refine XS.icmpNo X0.here hx rfl (hb hby d1_46) rfl (teq (by decide : (5 : Int32) = (5 : Int32))).2 ?_
    show Steps p.tables e below (s₁.setTop (mkF m 49 #[.val (.int (5 : Int32))] [])) _
    exact kt
  obtain ⟨T2, X2, e2, st2⟩ := getS2 X0 hx hZ hown (host := "") (Or.inl (hw _ (own_w 50 rfl))) Via.refl e0 (SOFFSET_FETCH.ext O0.2) (g := (mkF m 49 #[.val (.int (5 : Int32))] [])) rfl (hb hby d1_49)
  have pre3 : own_Go p e below S0 (T2.setTop (mkF m 52 #[.val (.int (5 : Int32))] [(.ref wOFFSET_FETCH)])) := by
    intro t kt
    refine pre1 t ?_
    refine st2 _ ?_
    show Steps p.tables e below (T2.setTop (mkF m 52 #[.val (.int (5 : Int32))] [(.ref wOFFSET_FETCH)])) _
    exact kt
  obtain ⟨fs, hr, hrun, hended, hW, hsame⟩ := X2.leave (v := some (.ref wOFFSET_FETCH)) (fun h => by rw [Bd.returns] at h; cases h)
  refine ⟨_, _, fin _ (pre3 _ ?_), hrun, hended, _, _, rfl, ?_, ⟨_, rfl⟩, hW, hsame.mono (by decide) (by decide)⟩
  · jvm_step X2.here [X2.here.top, hx, (hb hby d1_52), X2.method', Bd.returns, Value.isRef, FieldType.isReference]
    first | (intro acts; rw [hr _ acts rfl rfl rfl]) | rw [hr _ _ rfl rfl rfl]
    exact Steps.refl _
  · show Q1n5 Z wOFFSET_FETCH h0 n0 _ T2.heap _
    rw [e2]
    exact ⟨rfl, N0, rfl⟩

theorem d1_53 : decode method_2_code 53 = .ok (.iload_n 0, 1) := by decide +kernel
theorem d1_54 : decode method_2_code 54 = .ok (.bipush 6, 2) := by decide +kernel
theorem d1_56 : decode method_2_code 56 = .ok (.if_icmp .ne 7, 3) := by decide +kernel
theorem d1_59 : decode method_2_code 59 = .ok (.getstatic 28, 3) := by decide +kernel
theorem d1_62 : decode method_2_code 62 = .ok (.areturn, 1) := by decide +kernel
theorem ef_1n6 (m : MethodId)  : entryFrame m #[(.int (6 : Int32))] 1 = mkF m 0 #[.val (.int (6 : Int32))] [] := by first | (simp [entryFrame, mkF, argsToLocals, Value.category]; done) | rfl
def Q1n6 (Z : State) (wFIND_COORDINATOR : Addr) (h0 : Heap) (n0 : Nat) (v : Option Value) (h : Heap) (L : List Loc) : Prop := v = (some (.ref wFIND_COORDINATOR)) ∧ Fr n0 L ∧ h = h0
set_option maxRecDepth 65536 in
set_option maxHeartbeats 40000000 in
theorem rm1n6 (l : Launch) (Z : State) (a0 : Array Value) (hw : ∀ d ∈ tables_1, d.before a0 Z = true) (ws : List Jvm.Cond) (wFIND_COORDINATOR : Addr) (h0 : Heap) (n0 : Nat) (Z0 : n0 ≤ h0.size) (O0 : Old Z n0 h0) (SFIND_COORDINATOR : Sta Z Z.heap "com/example/eurybates/eurybates/protocol/ApiKey" "FIND_COORDINATOR" "Lcom/example/eurybates/eurybates/protocol/ApiKey;" (.ref wFIND_COORDINATOR)) :
    MetFree l (⟨"com/example/eurybates/eurybates/protocol/ApiKeyImplementsVersionPinLaw", "pick", "(I)Lcom/example/eurybates/eurybates/protocol/ApiKey;"⟩ : MethodName) (head1 (Jvm.Cond.code (⟨"com/example/eurybates/eurybates/protocol/ApiKeyImplementsVersionPinLaw", "pick", "(I)Lcom/example/eurybates/eurybates/protocol/ApiKey;"⟩ : MethodName) method_2_code 1 (some (.object "com/example/eurybates/eurybates/protocol/ApiKey")) :: ws) ({ frames := 0, cells := 0, slots := 0, locals := 0 } : Room)) (fun a U => a = #[(.int (6 : Int32))] ∧ Z.Warmed39 U.vm ∧ U.heap = h0) (fun _ _ _ _ _ => True) (fun _ U o U' => ∃ v L, o = .returned v ∧ Q1n6 Z wFIND_COORDINATOR h0 n0 v U'.heap L ∧ FrameEnd U o U' L ({ frames := 0, cells := 0, slots := 0, locals := 0 } : Room).cells ({ frames := 0, cells := 0, slots := 0, locals := 0 } : Room).slots) := by
  refine MetFree.of_bodySF (plainFor_of_name pn_1) hisR ?_
  intro p e s m args below meth c s₁ Bd hml0 hP hK
  obtain ⟨rfl, hZ, hh⟩ := hP
  have hx := Bd.exec
  have hby := Bd.bytes
  have hml : c.maxLocals = 1 := hml0
  have hown0 := findClass_of_methodNamed Bd.named
  have hown : s.vm.findClass "com/example/eurybates/eurybates/protocol/ApiKeyImplementsVersionPinLaw" = some m.cls := hown0
  have hnm := (name_of_methodNamed Bd.named Bd.method).1
  have X0 : Stand p l e ({ frames := 0, cells := 0, slots := 0, locals := 0 } : Room) s m #[(.int (6 : Int32))] below meth c s₁ [] 0 0 := Stand.of_body Bd
  have e0 : s₁.heap = h0 := by rw [← hh, Bd.state]; rfl
  have N0 := Fr.nil n0
  obtain ⟨S0, hS0⟩ : ∃ z, z = s₁.setTop (entryFrame m #[(.int (6 : Int32))] 1) := ⟨_, rfl⟩
  have pre0 : own_Go p e below S0 (s₁.setTop (mkF m 0 #[.val (.int (6 : Int32))] [])) := fun t k => by rw [hS0]; exact castTop (ef_1n6 m ) k
  have fin : ∀ t, Steps p.tables e below S0 t → Steps p.tables e below (s₁.setTop (entryFrame m #[(.int (6 : Int32))] 1)) t := fun t k => by rw [hS0] at k; exact k
  have pre1 : own_Go p e below S0 (s₁.setTop (mkF m 59 #[.val (.int (6 : Int32))] [])) := by
    intro t kt
    refine pre0 t ?_
    refine XS.iloadN X0.here hx rfl (hb hby d1_0) rfl ?_
    show Steps p.tables e below (s₁.setTop (mkF m 1 #[.val (.int (6 : Int32))] [(.int (6 : Int32))])) _
    refine XS.ifYes X0.here hx rfl (pc0 := 1) (pc' := 8) rfl (hb hby d1_1) rfl ((if0 _ _).trans (feq (by decide : ¬ ((6 : Int32) = (0 : Int32)))).2) (by decide) (by decide) ?_
    show Steps p.tables e below (s₁.setTop (mkF m 8 #[.val (.int (6 : Int32))] [])) _
    refine XS.iloadN X0.here hx rfl (hb hby d1_8) rfl ?_
    show Steps p.tables e below (s₁.setTop (mkF m 9 #[.val (.int (6 : Int32))] [(.int (6 : Int32))])) _
    refine XS.iconst X0.here hx rfl (hb hby d1_9) ?_
    show Steps p.tables e below (s₁.setTop (mkF m 10 #[.val (.int (6 : Int32))] [(.int (1 : Int32)), (.int (6 : Int32))])) _
    refine XS.icmpYes X0.here hx rfl (pc0 := 10) (pc' := 17) rfl (hb hby d1_10) rfl (feq (by decide : ¬ ((6 : Int32) = (1 : Int32)))).2 (by decide) (by decide) ?_
    show Steps p.tables e below (s₁.setTop (mkF m 17 #[.val (.int (6 : Int32))] [])) _
    refine XS.iloadN X0.here hx rfl (hb hby d1_17) rfl ?_
    show Steps p.tables e below (s₁.setTop (mkF m 18 #[.val (.int (6 : Int32))] [(.int (6 : Int32))])) _
    refine XS.iconst X0.here hx rfl (hb hby d1_18) ?_
    show Steps p.tables e below (s₁.setTop (mkF m 19 #[.val (.int (6 : Int32))] [(.int (2 : Int32)), (.int (6 : Int32))])) _
    refine XS.icmpYes X0.here hx rfl (pc0 := 19) (pc' := 26) rfl (hb hby d1_19) rfl (feq (by decide : ¬ ((6 : Int32) = (2 : Int32)))).2 (by decide) (by decide) ?_
    show Steps p.tables e below (s₁.setTop (mkF m 26 #[.val (.int (6 : Int32))] [])) _
    refine XS.iloadN X0.here hx rfl (hb hby d1_26) rfl ?_
    show Steps p.tables e below (s₁.setTop (mkF m 27 #[.val (.int (6 : Int32))] [(.int (6 : Int32))])) _
    refine XS.iconst X0.here hx rfl (hb hby d1_27) ?_
    show Steps p.tables e below (s₁.setTop (mkF m 28 #[.val (.int (6 : Int32))] [(.int (3 : Int32)), (.int (6 : Int32))])) _
    refine XS.icmpYes X0.here hx rfl (pc0 := 28) (pc' := 35) rfl (hb hby d1_28) rfl (feq (by decide : ¬ ((6 : Int32) = (3 : Int32)))).2 (by decide) (by decide) ?_
    show Steps p.tables e below (s₁.setTop (mkF m 35 #[.val (.int (6 : Int32))] [])) _
    refine XS.iloadN X0.here hx rfl (hb hby d1_35) rfl ?_
    show Steps p.tables e below (s₁.setTop (mkF m 36 #[.val (.int (6 : Int32))] [(.int (6 : Int32))])) _
    refine XS.iconst X0.here hx rfl (hb hby d1_36) ?_
    show Steps p.tables e below (s₁.setTop (mkF m 37 #[.val (.int (6 : Int32))] [(.int (4 : Int32)), (.int (6 : Int32))])) _
    refine XS.icmpYes X0.here hx rfl (pc0 := 37) (pc' := 44) rfl (hb hby d1_37) rfl (feq (by decide : ¬ ((6 : Int32) = (4 : Int32)))).2 (by decide) (by decide) ?_
    show Steps p.tables e below (s₁.setTop (mkF m 44 #[.val (.int (6 : Int32))] [])) _
    refine XS.iloadN X0.here hx rfl (hb hby d1_44) rfl ?_
    show Steps p.tables e below (s₁.setTop (mkF m 45 #[.val (.int (6 : Int32))] [(.int (6 : Int32))])) _
    refine XS.iconst X0.here hx rfl (hb hby d1_45) ?_
    show Steps p.tables e below (s₁.setTop (mkF m 46 #[.val (.int (6 : Int32))] [(.int (5 : Int32)), (.int (6 : Int32))])) _
    refine XS.icmpYes X0.here hx rfl (pc0 := 46) (pc' := 53) rfl (hb hby d1_46) rfl (feq (by decide : ¬ ((6 : Int32) = (5 : Int32)))).2 (by decide) (by decide) ?_
    show Steps p.tables e below (s₁.setTop (mkF m 53 #[.val (.int (6 : Int32))] [])) _
    refine XS.iloadN X0.here hx rfl (hb hby d1_53) rfl ?_
    show Steps p.tables e below (s₁.setTop (mkF m 54 #[.val (.int (6 : Int32))] [(.int (6 : Int32))])) _
    refine XS.bipush X0.here hx rfl (hb hby d1_54) ?_
    show Steps p.tables e below (s₁.setTop (mkF m 56 #[.val (.int (6 : Int32))] [(.int (6 : Int32)), (.int (6 : Int32))])) _
    refine XS.icmpNo X0.here hx rfl (hb hby d1_56) rfl (teq (by decide : (6 : Int32) = (6 : Int32))).2 ?_
    show Steps p.tables e below (s₁.setTop (mkF m 59 #[.val (.int (6 : Int32))] [])) _
    exact kt
  obtain ⟨T2, X2, e2, st2⟩ := getS2 X0 hx hZ hown (host := "") (Or.inl (hw _ (own_w 24 rfl))) Via.refl e0 (SFIND_COORDINATOR.ext O0.2) (g := (mkF m 59 #[.val (.int (6 : Int32))] [])) rfl (hb hby d1_59)
  have pre3 : own_Go p e below S0 (T2.setTop (mkF m 62 #[.val (.int (6 : Int32))] [(.ref wFIND_COORDINATOR)])) := by
    intro t kt
    refine pre1 t ?_
    refine st2 _ ?_
    show Steps p.tables e below (T2.setTop (mkF m 62 #[.val (.int (6 : Int32))] [(.ref wFIND_COORDINATOR)])) _
    exact kt
  obtain ⟨fs, hr, hrun, hended, hW, hsame⟩ := X2.leave (v := some (.ref wFIND_COORDINATOR)) (fun h => by rw [Bd.returns] at h; cases h)
  refine ⟨_, _, fin _ (pre3 _ ?_), hrun, hended, _, _, rfl, ?_, ⟨_, rfl⟩, hW, hsame.mono (by decide) (by decide)⟩
  · jvm_step X2.here [X2.here.top, hx, (hb hby d1_62), X2.method', Bd.returns, Value.isRef, FieldType.isReference]
    first | (intro acts; rw [hr _ acts rfl rfl rfl]) | rw [hr _ _ rfl rfl rfl]
    exact Steps.refl _
  · show Q1n6 Z wFIND_COORDINATOR h0 n0 _ T2.heap _
    rw [e2]
    exact ⟨rfl, N0, rfl⟩

theorem d1_63 : decode method_2_code 63 = .ok (.iload_n 0, 1) := by decide +kernel
theorem d1_64 : decode method_2_code 64 = .ok (.bipush 7, 2) := by decide +kernel
theorem d1_66 : decode method_2_code 66 = .ok (.if_icmp .ne 7, 3) := by decide +kernel
theorem d1_69 : decode method_2_code 69 = .ok (.getstatic 31, 3) := by decide +kernel
theorem d1_72 : decode method_2_code 72 = .ok (.areturn, 1) := by decide +kernel
theorem ef_1n7 (m : MethodId)  : entryFrame m #[(.int (7 : Int32))] 1 = mkF m 0 #[.val (.int (7 : Int32))] [] := by first | (simp [entryFrame, mkF, argsToLocals, Value.category]; done) | rfl
def Q1n7 (Z : State) (wJOIN_GROUP : Addr) (h0 : Heap) (n0 : Nat) (v : Option Value) (h : Heap) (L : List Loc) : Prop := v = (some (.ref wJOIN_GROUP)) ∧ Fr n0 L ∧ h = h0
set_option maxRecDepth 65536 in
set_option maxHeartbeats 40000000 in
theorem rm1n7 (l : Launch) (Z : State) (a0 : Array Value) (hw : ∀ d ∈ tables_1, d.before a0 Z = true) (ws : List Jvm.Cond) (wJOIN_GROUP : Addr) (h0 : Heap) (n0 : Nat) (Z0 : n0 ≤ h0.size) (O0 : Old Z n0 h0) (SJOIN_GROUP : Sta Z Z.heap "com/example/eurybates/eurybates/protocol/ApiKey" "JOIN_GROUP" "Lcom/example/eurybates/eurybates/protocol/ApiKey;" (.ref wJOIN_GROUP)) :
    MetFree l (⟨"com/example/eurybates/eurybates/protocol/ApiKeyImplementsVersionPinLaw", "pick", "(I)Lcom/example/eurybates/eurybates/protocol/ApiKey;"⟩ : MethodName) (head1 (Jvm.Cond.code (⟨"com/example/eurybates/eurybates/protocol/ApiKeyImplementsVersionPinLaw", "pick", "(I)Lcom/example/eurybates/eurybates/protocol/ApiKey;"⟩ : MethodName) method_2_code 1 (some (.object "com/example/eurybates/eurybates/protocol/ApiKey")) :: ws) ({ frames := 0, cells := 0, slots := 0, locals := 0 } : Room)) (fun a U => a = #[(.int (7 : Int32))] ∧ Z.Warmed39 U.vm ∧ U.heap = h0) (fun _ _ _ _ _ => True) (fun _ U o U' => ∃ v L, o = .returned v ∧ Q1n7 Z wJOIN_GROUP h0 n0 v U'.heap L ∧ FrameEnd U o U' L ({ frames := 0, cells := 0, slots := 0, locals := 0 } : Room).cells ({ frames := 0, cells := 0, slots := 0, locals := 0 } : Room).slots) := by
  refine MetFree.of_bodySF (plainFor_of_name pn_1) hisR ?_
  intro p e s m args below meth c s₁ Bd hml0 hP hK
  obtain ⟨rfl, hZ, hh⟩ := hP
  have hx := Bd.exec
  have hby := Bd.bytes
  have hml : c.maxLocals = 1 := hml0
  have hown0 := findClass_of_methodNamed Bd.named
  have hown : s.vm.findClass "com/example/eurybates/eurybates/protocol/ApiKeyImplementsVersionPinLaw" = some m.cls := hown0
  have hnm := (name_of_methodNamed Bd.named Bd.method).1
  have X0 : Stand p l e ({ frames := 0, cells := 0, slots := 0, locals := 0 } : Room) s m #[(.int (7 : Int32))] below meth c s₁ [] 0 0 := Stand.of_body Bd
  have e0 : s₁.heap = h0 := by rw [← hh, Bd.state]; rfl
  have N0 := Fr.nil n0
  obtain ⟨S0, hS0⟩ : ∃ z, z = s₁.setTop (entryFrame m #[(.int (7 : Int32))] 1) := ⟨_, rfl⟩
  have pre0 : own_Go p e below S0 (s₁.setTop (mkF m 0 #[.val (.int (7 : Int32))] [])) := fun t k => by rw [hS0]; exact castTop (ef_1n7 m ) k
  have fin : ∀ t, Steps p.tables e below S0 t → Steps p.tables e below (s₁.setTop (entryFrame m #[(.int (7 : Int32))] 1)) t := fun t k => by rw [hS0] at k; exact k
  have pre1 : own_Go p e below S0 (s₁.setTop (mkF m 69 #[.val (.int (7 : Int32))] [])) := by
    intro t kt
    refine pre0 t ?_
    refine XS.iloadN X0.here hx rfl (hb hby d1_0) rfl ?_
    show Steps p.tables e below (s₁.setTop (mkF m 1 #[.val (.int (7 : Int32))] [(.int (7 : Int32))])) _
    refine XS.ifYes X0.here hx rfl (pc0 := 1) (pc' := 8) rfl (hb hby d1_1) rfl ((if0 _ _).trans (feq (by decide : ¬ ((7 : Int32) = (0 : Int32)))).2) (by decide) (by decide) ?_
    show Steps p.tables e below (s₁.setTop (mkF m 8 #[.val (.int (7 : Int32))] [])) _
    refine XS.iloadN X0.here hx rfl (hb hby d1_8) rfl ?_
    show Steps p.tables e below (s₁.setTop (mkF m 9 #[.val (.int (7 : Int32))] [(.int (7 : Int32))])) _
    refine XS.iconst X0.here hx rfl (hb hby d1_9) ?_
    show Steps p.tables e below (s₁.setTop (mkF m 10 #[.val (.int (7 : Int32))] [(.int (1 : Int32)), (.int (7 : Int32))])) _
    refine XS.icmpYes X0.here hx rfl (pc0 := 10) (pc' := 17) rfl (hb hby d1_10) rfl (feq (by decide : ¬ ((7 : Int32) = (1 : Int32)))).2 (by decide) (by decide) ?_
    show Steps p.tables e below (s₁.setTop (mkF m 17 #[.val (.int (7 : Int32))] [])) _
    refine XS.iloadN X0.here hx rfl (hb hby d1_17) rfl ?_
    show Steps p.tables e below (s₁.setTop (mkF m 18 #[.val (.int (7 : Int32))] [(.int (7 : Int32))])) _
    refine XS.iconst X0.here hx rfl (hb hby d1_18) ?_
    show Steps p.tables e below (s₁.setTop (mkF m 19 #[.val (.int (7 : Int32))] [(.int (2 : Int32)), (.int (7 : Int32))])) _
    refine XS.icmpYes X0.here hx rfl (pc0 := 19) (pc' := 26) rfl (hb hby d1_19) rfl (feq (by decide : ¬ ((7 : Int32) = (2 : Int32)))).2 (by decide) (by decide) ?_
    show Steps p.tables e below (s₁.setTop (mkF m 26 #[.val (.int (7 : Int32))] [])) _
    refine XS.iloadN X0.here hx rfl (hb hby d1_26) rfl ?_
    show Steps p.tables e below (s₁.setTop (mkF m 27 #[.val (.int (7 : Int32))] [(.int (7 : Int32))])) _
    refine XS.iconst X0.here hx rfl (hb hby d1_27) ?_
    show Steps p.tables e below (s₁.setTop (mkF m 28 #[.val (.int (7 : Int32))] [(.int (3 : Int32)), (.int (7 : Int32))])) _
    refine XS.icmpYes X0.here hx rfl (pc0 := 28) (pc' := 35) rfl (hb hby d1_28) rfl (feq (by decide : ¬ ((7 : Int32) = (3 : Int32)))).2 (by decide) (by decide) ?_
    show Steps p.tables e below (s₁.setTop (mkF m 35 #[.val (.int (7 : Int32))] [])) _
    refine XS.iloadN X0.here hx rfl (hb hby d1_35) rfl ?_
    show Steps p.tables e below (s₁.setTop (mkF m 36 #[.val (.int (7 : Int32))] [(.int (7 : Int32))])) _
    refine XS.iconst X0.here hx rfl (hb hby d1_36) ?_
    show Steps p.tables e below (s₁.setTop (mkF m 37 #[.val (.int (7 : Int32))] [(.int (4 : Int32)), (.int (7 : Int32))])) _
    refine XS.icmpYes X0.here hx rfl (pc0 := 37) (pc' := 44) rfl (hb hby d1_37) rfl (feq (by decide : ¬ ((7 : Int32) = (4 : Int32)))).2 (by decide) (by decide) ?_
    show Steps p.tables e below (s₁.setTop (mkF m 44 #[.val (.int (7 : Int32))] [])) _
    refine XS.iloadN X0.here hx rfl (hb hby d1_44) rfl ?_
    show Steps p.tables e below (s₁.setTop (mkF m 45 #[.val (.int (7 : Int32))] [(.int (7 : Int32))])) _
    refine XS.iconst X0.here hx rfl (hb hby d1_45) ?_
    show Steps p.tables e below (s₁.setTop (mkF m 46 #[.val (.int (7 : Int32))] [(.int (5 : Int32)), (.int (7 : Int32))])) _
    refine XS.icmpYes X0.here hx rfl (pc0 := 46) (pc' := 53) rfl (hb hby d1_46) rfl (feq (by decide : ¬ ((7 : Int32) = (5 : Int32)))).2 (by decide) (by decide) ?_
    show Steps p.tables e below (s₁.setTop (mkF m 53 #[.val (.int (7 : Int32))] [])) _
    refine XS.iloadN X0.here hx rfl (hb hby d1_53) rfl ?_
    show Steps p.tables e below (s₁.setTop (mkF m 54 #[.val (.int (7 : Int32))] [(.int (7 : Int32))])) _
    refine XS.bipush X0.here hx rfl (hb hby d1_54) ?_
    show Steps p.tables e below (s₁.setTop (mkF m 56 #[.val (.int (7 : Int32))] [(.int (6 : Int32)), (.int (7 : Int32))])) _
    refine XS.icmpYes X0.here hx rfl (pc0 := 56) (pc' := 63) rfl (hb hby d1_56) rfl (feq (by decide : ¬ ((7 : Int32) = (6 : Int32)))).2 (by decide) (by decide) ?_
    show Steps p.tables e below (s₁.setTop (mkF m 63 #[.val (.int (7 : Int32))] [])) _
    refine XS.iloadN X0.here hx rfl (hb hby d1_63) rfl ?_
    show Steps p.tables e below (s₁.setTop (mkF m 64 #[.val (.int (7 : Int32))] [(.int (7 : Int32))])) _
    refine XS.bipush X0.here hx rfl (hb hby d1_64) ?_
    show Steps p.tables e below (s₁.setTop (mkF m 66 #[.val (.int (7 : Int32))] [(.int (7 : Int32)), (.int (7 : Int32))])) _
    refine XS.icmpNo X0.here hx rfl (hb hby d1_66) rfl (teq (by decide : (7 : Int32) = (7 : Int32))).2 ?_
    show Steps p.tables e below (s₁.setTop (mkF m 69 #[.val (.int (7 : Int32))] [])) _
    exact kt
  obtain ⟨T2, X2, e2, st2⟩ := getS2 X0 hx hZ hown (host := "") (Or.inl (hw _ (own_w 44 rfl))) Via.refl e0 (SJOIN_GROUP.ext O0.2) (g := (mkF m 69 #[.val (.int (7 : Int32))] [])) rfl (hb hby d1_69)
  have pre3 : own_Go p e below S0 (T2.setTop (mkF m 72 #[.val (.int (7 : Int32))] [(.ref wJOIN_GROUP)])) := by
    intro t kt
    refine pre1 t ?_
    refine st2 _ ?_
    show Steps p.tables e below (T2.setTop (mkF m 72 #[.val (.int (7 : Int32))] [(.ref wJOIN_GROUP)])) _
    exact kt
  obtain ⟨fs, hr, hrun, hended, hW, hsame⟩ := X2.leave (v := some (.ref wJOIN_GROUP)) (fun h => by rw [Bd.returns] at h; cases h)
  refine ⟨_, _, fin _ (pre3 _ ?_), hrun, hended, _, _, rfl, ?_, ⟨_, rfl⟩, hW, hsame.mono (by decide) (by decide)⟩
  · jvm_step X2.here [X2.here.top, hx, (hb hby d1_72), X2.method', Bd.returns, Value.isRef, FieldType.isReference]
    first | (intro acts; rw [hr _ acts rfl rfl rfl]) | rw [hr _ _ rfl rfl rfl]
    exact Steps.refl _
  · show Q1n7 Z wJOIN_GROUP h0 n0 _ T2.heap _
    rw [e2]
    exact ⟨rfl, N0, rfl⟩

theorem d1_73 : decode method_2_code 73 = .ok (.iload_n 0, 1) := by decide +kernel
theorem d1_74 : decode method_2_code 74 = .ok (.bipush 8, 2) := by decide +kernel
theorem d1_76 : decode method_2_code 76 = .ok (.if_icmp .ne 7, 3) := by decide +kernel
theorem d1_79 : decode method_2_code 79 = .ok (.getstatic 34, 3) := by decide +kernel
theorem d1_82 : decode method_2_code 82 = .ok (.areturn, 1) := by decide +kernel
theorem ef_1n8 (m : MethodId)  : entryFrame m #[(.int (8 : Int32))] 1 = mkF m 0 #[.val (.int (8 : Int32))] [] := by first | (simp [entryFrame, mkF, argsToLocals, Value.category]; done) | rfl
def Q1n8 (Z : State) (wHEARTBEAT : Addr) (h0 : Heap) (n0 : Nat) (v : Option Value) (h : Heap) (L : List Loc) : Prop := v = (some (.ref wHEARTBEAT)) ∧ Fr n0 L ∧ h = h0
set_option maxRecDepth 65536 in
set_option maxHeartbeats 40000000 in
theorem rm1n8 (l : Launch) (Z : State) (a0 : Array Value) (hw : ∀ d ∈ tables_1, d.before a0 Z = true) (ws : List Jvm.Cond) (wHEARTBEAT : Addr) (h0 : Heap) (n0 : Nat) (Z0 : n0 ≤ h0.size) (O0 : Old Z n0 h0) (SHEARTBEAT : Sta Z Z.heap "com/example/eurybates/eurybates/protocol/ApiKey" "HEARTBEAT" "Lcom/example/eurybates/eurybates/protocol/ApiKey;" (.ref wHEARTBEAT)) :
    MetFree l (⟨"com/example/eurybates/eurybates/protocol/ApiKeyImplementsVersionPinLaw", "pick", "(I)Lcom/example/eurybates/eurybates/protocol/ApiKey;"⟩ : MethodName) (head1 (Jvm.Cond.code (⟨"com/example/eurybates/eurybates/protocol/ApiKeyImplementsVersionPinLaw", "pick", "(I)Lcom/example/eurybates/eurybates/protocol/ApiKey;"⟩ : MethodName) method_2_code 1 (some (.object "com/example/eurybates/eurybates/protocol/ApiKey")) :: ws) ({ frames := 0, cells := 0, slots := 0, locals := 0 } : Room)) (fun a U => a = #[(.int (8 : Int32))] ∧ Z.Warmed39 U.vm ∧ U.heap = h0) (fun _ _ _ _ _ => True) (fun _ U o U' => ∃ v L, o = .returned v ∧ Q1n8 Z wHEARTBEAT h0 n0 v U'.heap L ∧ FrameEnd U o U' L ({ frames := 0, cells := 0, slots := 0, locals := 0 } : Room).cells ({ frames := 0, cells := 0, slots := 0, locals := 0 } : Room).slots) := by
  refine MetFree.of_bodySF (plainFor_of_name pn_1) hisR ?_
  intro p e s m args below meth c s₁ Bd hml0 hP hK
  obtain ⟨rfl, hZ, hh⟩ := hP
  have hx := Bd.exec
  have hby := Bd.bytes
  have hml : c.maxLocals = 1 := hml0
  have hown0 := findClass_of_methodNamed Bd.named
  have hown : s.vm.findClass "com/example/eurybates/eurybates/protocol/ApiKeyImplementsVersionPinLaw" = some m.cls := hown0
  have hnm := (name_of_methodNamed Bd.named Bd.method).1
  have X0 : Stand p l e ({ frames := 0, cells := 0, slots := 0, locals := 0 } : Room) s m #[(.int (8 : Int32))] below meth c s₁ [] 0 0 := Stand.of_body Bd
  have e0 : s₁.heap = h0 := by rw [← hh, Bd.state]; rfl
  have N0 := Fr.nil n0
  obtain ⟨S0, hS0⟩ : ∃ z, z = s₁.setTop (entryFrame m #[(.int (8 : Int32))] 1) := ⟨_, rfl⟩
  have pre0 : own_Go p e below S0 (s₁.setTop (mkF m 0 #[.val (.int (8 : Int32))] [])) := fun t k => by rw [hS0]; exact castTop (ef_1n8 m ) k
  have fin : ∀ t, Steps p.tables e below S0 t → Steps p.tables e below (s₁.setTop (entryFrame m #[(.int (8 : Int32))] 1)) t := fun t k => by rw [hS0] at k; exact k
  have pre1 : own_Go p e below S0 (s₁.setTop (mkF m 79 #[.val (.int (8 : Int32))] [])) := by
    intro t kt
    refine pre0 t ?_
    refine XS.iloadN X0.here hx rfl (hb hby d1_0) rfl ?_
    show Steps p.tables e below (s₁.setTop (mkF m 1 #[.val (.int (8 : Int32))] [(.int (8 : Int32))])) _
    refine XS.ifYes X0.here hx rfl (pc0 := 1) (pc' := 8) rfl (hb hby d1_1) rfl ((if0 _ _).trans (feq (by decide : ¬ ((8 : Int32) = (0 : Int32)))).2) (by decide) (by decide) ?_
    show Steps p.tables e below (s₁.setTop (mkF m 8 #[.val (.int (8 : Int32))] [])) _
    refine XS.iloadN X0.here hx rfl (hb hby d1_8) rfl ?_
    show Steps p.tables e below (s₁.setTop (mkF m 9 #[.val (.int (8 : Int32))] [(.int (8 : Int32))])) _
    refine XS.iconst X0.here hx rfl (hb hby d1_9) ?_
    show Steps p.tables e below (s₁.setTop (mkF m 10 #[.val (.int (8 : Int32))] [(.int (1 : Int32)), (.int (8 : Int32))])) _
    refine XS.icmpYes X0.here hx rfl (pc0 := 10) (pc' := 17) rfl (hb hby d1_10) rfl (feq (by decide : ¬ ((8 : Int32) = (1 : Int32)))).2 (by decide) (by decide) ?_
    show Steps p.tables e below (s₁.setTop (mkF m 17 #[.val (.int (8 : Int32))] [])) _
    refine XS.iloadN X0.here hx rfl (hb hby d1_17) rfl ?_
    show Steps p.tables e below (s₁.setTop (mkF m 18 #[.val (.int (8 : Int32))] [(.int (8 : Int32))])) _
    refine XS.iconst X0.here hx rfl (hb hby d1_18) ?_
    show Steps p.tables e below (s₁.setTop (mkF m 19 #[.val (.int (8 : Int32))] [(.int (2 : Int32)), (.int (8 : Int32))])) _
    refine XS.icmpYes X0.here hx rfl (pc0 := 19) (pc' := 26) rfl (hb hby d1_19) rfl (feq (by decide : ¬ ((8 : Int32) = (2 : Int32)))).2 (by decide) (by decide) ?_
    show Steps p.tables e below (s₁.setTop (mkF m 26 #[.val (.int (8 : Int32))] [])) _
    refine XS.iloadN X0.here hx rfl (hb hby d1_26) rfl ?_
    show Steps p.tables e below (s₁.setTop (mkF m 27 #[.val (.int (8 : Int32))] [(.int (8 : Int32))])) _
    refine XS.iconst X0.here hx rfl (hb hby d1_27) ?_
    show Steps p.tables e below (s₁.setTop (mkF m 28 #[.val (.int (8 : Int32))] [(.int (3 : Int32)), (.int (8 : Int32))])) _
    refine XS.icmpYes X0.here hx rfl (pc0 := 28) (pc' := 35) rfl (hb hby d1_28) rfl (feq (by decide : ¬ ((8 : Int32) = (3 : Int32)))).2 (by decide) (by decide) ?_
    show Steps p.tables e below (s₁.setTop (mkF m 35 #[.val (.int (8 : Int32))] [])) _
    refine XS.iloadN X0.here hx rfl (hb hby d1_35) rfl ?_
    show Steps p.tables e below (s₁.setTop (mkF m 36 #[.val (.int (8 : Int32))] [(.int (8 : Int32))])) _
    refine XS.iconst X0.here hx rfl (hb hby d1_36) ?_
    show Steps p.tables e below (s₁.setTop (mkF m 37 #[.val (.int (8 : Int32))] [(.int (4 : Int32)), (.int (8 : Int32))])) _
    refine XS.icmpYes X0.here hx rfl (pc0 := 37) (pc' := 44) rfl (hb hby d1_37) rfl (feq (by decide : ¬ ((8 : Int32) = (4 : Int32)))).2 (by decide) (by decide) ?_
    show Steps p.tables e below (s₁.setTop (mkF m 44 #[.val (.int (8 : Int32))] [])) _
    refine XS.iloadN X0.here hx rfl (hb hby d1_44) rfl ?_
    show Steps p.tables e below (s₁.setTop (mkF m 45 #[.val (.int (8 : Int32))] [(.int (8 : Int32))])) _
    refine XS.iconst X0.here hx rfl (hb hby d1_45) ?_
    show Steps p.tables e below (s₁.setTop (mkF m 46 #[.val (.int (8 : Int32))] [(.int (5 : Int32)), (.int (8 : Int32))])) _
    refine XS.icmpYes X0.here hx rfl (pc0 := 46) (pc' := 53) rfl (hb hby d1_46) rfl (feq (by decide : ¬ ((8 : Int32) = (5 : Int32)))).2 (by decide) (by decide) ?_
    show Steps p.tables e below (s₁.setTop (mkF m 53 #[.val (.int (8 : Int32))] [])) _
    refine XS.iloadN X0.here hx rfl (hb hby d1_53) rfl ?_
    show Steps p.tables e below (s₁.setTop (mkF m 54 #[.val (.int (8 : Int32))] [(.int (8 : Int32))])) _
    refine XS.bipush X0.here hx rfl (hb hby d1_54) ?_
    show Steps p.tables e below (s₁.setTop (mkF m 56 #[.val (.int (8 : Int32))] [(.int (6 : Int32)), (.int (8 : Int32))])) _
    refine XS.icmpYes X0.here hx rfl (pc0 := 56) (pc' := 63) rfl (hb hby d1_56) rfl (feq (by decide : ¬ ((8 : Int32) = (6 : Int32)))).2 (by decide) (by decide) ?_
    show Steps p.tables e below (s₁.setTop (mkF m 63 #[.val (.int (8 : Int32))] [])) _
    refine XS.iloadN X0.here hx rfl (hb hby d1_63) rfl ?_
    show Steps p.tables e below (s₁.setTop (mkF m 64 #[.val (.int (8 : Int32))] [(.int (8 : Int32))])) _
    refine XS.bipush X0.here hx rfl (hb hby d1_64) ?_
    show Steps p.tables e below (s₁.setTop (mkF m 66 #[.val (.int (8 : Int32))] [(.int (7 : Int32)), (.int (8 : Int32))])) _
    refine XS.icmpYes X0.here hx rfl (pc0 := 66) (pc' := 73) rfl (hb hby d1_66) rfl (feq (by decide : ¬ ((8 : Int32) = (7 : Int32)))).2 (by decide) (by decide) ?_
    show Steps p.tables e below (s₁.setTop (mkF m 73 #[.val (.int (8 : Int32))] [])) _
    refine XS.iloadN X0.here hx rfl (hb hby d1_73) rfl ?_
    show Steps p.tables e below (s₁.setTop (mkF m 74 #[.val (.int (8 : Int32))] [(.int (8 : Int32))])) _
    refine XS.bipush X0.here hx rfl (hb hby d1_74) ?_
    show Steps p.tables e below (s₁.setTop (mkF m 76 #[.val (.int (8 : Int32))] [(.int (8 : Int32)), (.int (8 : Int32))])) _
    refine XS.icmpNo X0.here hx rfl (hb hby d1_76) rfl (teq (by decide : (8 : Int32) = (8 : Int32))).2 ?_
    show Steps p.tables e below (s₁.setTop (mkF m 79 #[.val (.int (8 : Int32))] [])) _
    exact kt
  obtain ⟨T2, X2, e2, st2⟩ := getS2 X0 hx hZ hown (host := "") (Or.inl (hw _ (own_w 26 rfl))) Via.refl e0 (SHEARTBEAT.ext O0.2) (g := (mkF m 79 #[.val (.int (8 : Int32))] [])) rfl (hb hby d1_79)
  have pre3 : own_Go p e below S0 (T2.setTop (mkF m 82 #[.val (.int (8 : Int32))] [(.ref wHEARTBEAT)])) := by
    intro t kt
    refine pre1 t ?_
    refine st2 _ ?_
    show Steps p.tables e below (T2.setTop (mkF m 82 #[.val (.int (8 : Int32))] [(.ref wHEARTBEAT)])) _
    exact kt
  obtain ⟨fs, hr, hrun, hended, hW, hsame⟩ := X2.leave (v := some (.ref wHEARTBEAT)) (fun h => by rw [Bd.returns] at h; cases h)
  refine ⟨_, _, fin _ (pre3 _ ?_), hrun, hended, _, _, rfl, ?_, ⟨_, rfl⟩, hW, hsame.mono (by decide) (by decide)⟩
  · jvm_step X2.here [X2.here.top, hx, (hb hby d1_82), X2.method', Bd.returns, Value.isRef, FieldType.isReference]
    first | (intro acts; rw [hr _ acts rfl rfl rfl]) | rw [hr _ _ rfl rfl rfl]
    exact Steps.refl _
  · show Q1n8 Z wHEARTBEAT h0 n0 _ T2.heap _
    rw [e2]
    exact ⟨rfl, N0, rfl⟩

theorem d1_83 : decode method_2_code 83 = .ok (.iload_n 0, 1) := by decide +kernel
theorem d1_84 : decode method_2_code 84 = .ok (.bipush 9, 2) := by decide +kernel
theorem d1_86 : decode method_2_code 86 = .ok (.if_icmp .ne 7, 3) := by decide +kernel
theorem d1_89 : decode method_2_code 89 = .ok (.getstatic 37, 3) := by decide +kernel
theorem d1_92 : decode method_2_code 92 = .ok (.areturn, 1) := by decide +kernel
theorem ef_1n9 (m : MethodId)  : entryFrame m #[(.int (9 : Int32))] 1 = mkF m 0 #[.val (.int (9 : Int32))] [] := by first | (simp [entryFrame, mkF, argsToLocals, Value.category]; done) | rfl
def Q1n9 (Z : State) (wLEAVE_GROUP : Addr) (h0 : Heap) (n0 : Nat) (v : Option Value) (h : Heap) (L : List Loc) : Prop := v = (some (.ref wLEAVE_GROUP)) ∧ Fr n0 L ∧ h = h0
set_option maxRecDepth 65536 in
set_option maxHeartbeats 40000000 in
theorem rm1n9 (l : Launch) (Z : State) (a0 : Array Value) (hw : ∀ d ∈ tables_1, d.before a0 Z = true) (ws : List Jvm.Cond) (wLEAVE_GROUP : Addr) (h0 : Heap) (n0 : Nat) (Z0 : n0 ≤ h0.size) (O0 : Old Z n0 h0) (SLEAVE_GROUP : Sta Z Z.heap "com/example/eurybates/eurybates/protocol/ApiKey" "LEAVE_GROUP" "Lcom/example/eurybates/eurybates/protocol/ApiKey;" (.ref wLEAVE_GROUP)) :
    MetFree l (⟨"com/example/eurybates/eurybates/protocol/ApiKeyImplementsVersionPinLaw", "pick", "(I)Lcom/example/eurybates/eurybates/protocol/ApiKey;"⟩ : MethodName) (head1 (Jvm.Cond.code (⟨"com/example/eurybates/eurybates/protocol/ApiKeyImplementsVersionPinLaw", "pick", "(I)Lcom/example/eurybates/eurybates/protocol/ApiKey;"⟩ : MethodName) method_2_code 1 (some (.object "com/example/eurybates/eurybates/protocol/ApiKey")) :: ws) ({ frames := 0, cells := 0, slots := 0, locals := 0 } : Room)) (fun a U => a = #[(.int (9 : Int32))] ∧ Z.Warmed39 U.vm ∧ U.heap = h0) (fun _ _ _ _ _ => True) (fun _ U o U' => ∃ v L, o = .returned v ∧ Q1n9 Z wLEAVE_GROUP h0 n0 v U'.heap L ∧ FrameEnd U o U' L ({ frames := 0, cells := 0, slots := 0, locals := 0 } : Room).cells ({ frames := 0, cells := 0, slots := 0, locals := 0 } : Room).slots) := by
  refine MetFree.of_bodySF (plainFor_of_name pn_1) hisR ?_
  intro p e s m args below meth c s₁ Bd hml0 hP hK
  obtain ⟨rfl, hZ, hh⟩ := hP
  have hx := Bd.exec
  have hby := Bd.bytes
  have hml : c.maxLocals = 1 := hml0
  have hown0 := findClass_of_methodNamed Bd.named
  have hown : s.vm.findClass "com/example/eurybates/eurybates/protocol/ApiKeyImplementsVersionPinLaw" = some m.cls := hown0
  have hnm := (name_of_methodNamed Bd.named Bd.method).1
  have X0 : Stand p l e ({ frames := 0, cells := 0, slots := 0, locals := 0 } : Room) s m #[(.int (9 : Int32))] below meth c s₁ [] 0 0 := Stand.of_body Bd
  have e0 : s₁.heap = h0 := by rw [← hh, Bd.state]; rfl
  have N0 := Fr.nil n0
  obtain ⟨S0, hS0⟩ : ∃ z, z = s₁.setTop (entryFrame m #[(.int (9 : Int32))] 1) := ⟨_, rfl⟩
  have pre0 : own_Go p e below S0 (s₁.setTop (mkF m 0 #[.val (.int (9 : Int32))] [])) := fun t k => by rw [hS0]; exact castTop (ef_1n9 m ) k
  have fin : ∀ t, Steps p.tables e below S0 t → Steps p.tables e below (s₁.setTop (entryFrame m #[(.int (9 : Int32))] 1)) t := fun t k => by rw [hS0] at k; exact k
  have pre1 : own_Go p e below S0 (s₁.setTop (mkF m 89 #[.val (.int (9 : Int32))] [])) := by
    intro t kt
    refine pre0 t ?_
    refine XS.iloadN X0.here hx rfl (hb hby d1_0) rfl ?_
    show Steps p.tables e below (s₁.setTop (mkF m 1 #[.val (.int (9 : Int32))] [(.int (9 : Int32))])) _
    refine XS.ifYes X0.here hx rfl (pc0 := 1) (pc' := 8) rfl (hb hby d1_1) rfl ((if0 _ _).trans (feq (by decide : ¬ ((9 : Int32) = (0 : Int32)))).2) (by decide) (by decide) ?_
    show Steps p.tables e below (s₁.setTop (mkF m 8 #[.val (.int (9 : Int32))] [])) _
    refine XS.iloadN X0.here hx rfl (hb hby d1_8) rfl ?_
    show Steps p.tables e below (s₁.setTop (mkF m 9 #[.val (.int (9 : Int32))] [(.int (9 : Int32))])) _
    refine XS.iconst X0.here hx rfl (hb hby d1_9) ?_
    show Steps p.tables e below (s₁.setTop (mkF m 10 #[.val (.int (9 : Int32))] [(.int (1 : Int32)), (.int (9 : Int32))])) _
    refine XS.icmpYes X0.here hx rfl (pc0 := 10) (pc' := 17) rfl (hb hby d1_10) rfl (feq (by decide : ¬ ((9 : Int32) = (1 : Int32)))).2 (by decide) (by decide) ?_
    show Steps p.tables e below (s₁.setTop (mkF m 17 #[.val (.int (9 : Int32))] [])) _
    refine XS.iloadN X0.here hx rfl (hb hby d1_17) rfl ?_
    show Steps p.tables e below (s₁.setTop (mkF m 18 #[.val (.int (9 : Int32))] [(.int (9 : Int32))])) _
    refine XS.iconst X0.here hx rfl (hb hby d1_18) ?_
    show Steps p.tables e below (s₁.setTop (mkF m 19 #[.val (.int (9 : Int32))] [(.int (2 : Int32)), (.int (9 : Int32))])) _
    refine XS.icmpYes X0.here hx rfl (pc0 := 19) (pc' := 26) rfl (hb hby d1_19) rfl (feq (by decide : ¬ ((9 : Int32) = (2 : Int32)))).2 (by decide) (by decide) ?_
    show Steps p.tables e below (s₁.setTop (mkF m 26 #[.val (.int (9 : Int32))] [])) _
    refine XS.iloadN X0.here hx rfl (hb hby d1_26) rfl ?_
    show Steps p.tables e below (s₁.setTop (mkF m 27 #[.val (.int (9 : Int32))] [(.int (9 : Int32))])) _
    refine XS.iconst X0.here hx rfl (hb hby d1_27) ?_
    show Steps p.tables e below (s₁.setTop (mkF m 28 #[.val (.int (9 : Int32))] [(.int (3 : Int32)), (.int (9 : Int32))])) _
    refine XS.icmpYes X0.here hx rfl (pc0 := 28) (pc' := 35) rfl (hb hby d1_28) rfl (feq (by decide : ¬ ((9 : Int32) = (3 : Int32)))).2 (by decide) (by decide) ?_
    show Steps p.tables e below (s₁.setTop (mkF m 35 #[.val (.int (9 : Int32))] [])) _
    refine XS.iloadN X0.here hx rfl (hb hby d1_35) rfl ?_
    show Steps p.tables e below (s₁.setTop (mkF m 36 #[.val (.int (9 : Int32))] [(.int (9 : Int32))])) _
    refine XS.iconst X0.here hx rfl (hb hby d1_36) ?_
    show Steps p.tables e below (s₁.setTop (mkF m 37 #[.val (.int (9 : Int32))] [(.int (4 : Int32)), (.int (9 : Int32))])) _
    refine XS.icmpYes X0.here hx rfl (pc0 := 37) (pc' := 44) rfl (hb hby d1_37) rfl (feq (by decide : ¬ ((9 : Int32) = (4 : Int32)))).2 (by decide) (by decide) ?_
    show Steps p.tables e below (s₁.setTop (mkF m 44 #[.val (.int (9 : Int32))] [])) _
    refine XS.iloadN X0.here hx rfl (hb hby d1_44) rfl ?_
    show Steps p.tables e below (s₁.setTop (mkF m 45 #[.val (.int (9 : Int32))] [(.int (9 : Int32))])) _
    refine XS.iconst X0.here hx rfl (hb hby d1_45) ?_
    show Steps p.tables e below (s₁.setTop (mkF m 46 #[.val (.int (9 : Int32))] [(.int (5 : Int32)), (.int (9 : Int32))])) _
    refine XS.icmpYes X0.here hx rfl (pc0 := 46) (pc' := 53) rfl (hb hby d1_46) rfl (feq (by decide : ¬ ((9 : Int32) = (5 : Int32)))).2 (by decide) (by decide) ?_
    show Steps p.tables e below (s₁.setTop (mkF m 53 #[.val (.int (9 : Int32))] [])) _
    refine XS.iloadN X0.here hx rfl (hb hby d1_53) rfl ?_
    show Steps p.tables e below (s₁.setTop (mkF m 54 #[.val (.int (9 : Int32))] [(.int (9 : Int32))])) _
    refine XS.bipush X0.here hx rfl (hb hby d1_54) ?_
    show Steps p.tables e below (s₁.setTop (mkF m 56 #[.val (.int (9 : Int32))] [(.int (6 : Int32)), (.int (9 : Int32))])) _
    refine XS.icmpYes X0.here hx rfl (pc0 := 56) (pc' := 63) rfl (hb hby d1_56) rfl (feq (by decide : ¬ ((9 : Int32) = (6 : Int32)))).2 (by decide) (by decide) ?_
    show Steps p.tables e below (s₁.setTop (mkF m 63 #[.val (.int (9 : Int32))] [])) _
    refine XS.iloadN X0.here hx rfl (hb hby d1_63) rfl ?_
    show Steps p.tables e below (s₁.setTop (mkF m 64 #[.val (.int (9 : Int32))] [(.int (9 : Int32))])) _
    refine XS.bipush X0.here hx rfl (hb hby d1_64) ?_
    show Steps p.tables e below (s₁.setTop (mkF m 66 #[.val (.int (9 : Int32))] [(.int (7 : Int32)), (.int (9 : Int32))])) _
    refine XS.icmpYes X0.here hx rfl (pc0 := 66) (pc' := 73) rfl (hb hby d1_66) rfl (feq (by decide : ¬ ((9 : Int32) = (7 : Int32)))).2 (by decide) (by decide) ?_
    show Steps p.tables e below (s₁.setTop (mkF m 73 #[.val (.int (9 : Int32))] [])) _
    refine XS.iloadN X0.here hx rfl (hb hby d1_73) rfl ?_
    show Steps p.tables e below (s₁.setTop (mkF m 74 #[.val (.int (9 : Int32))] [(.int (9 : Int32))])) _
    refine XS.bipush X0.here hx rfl (hb hby d1_74) ?_
    show Steps p.tables e below (s₁.setTop (mkF m 76 #[.val (.int (9 : Int32))] [(.int (8 : Int32)), (.int (9 : Int32))])) _
    refine XS.icmpYes X0.here hx rfl (pc0 := 76) (pc' := 83) rfl (hb hby d1_76) rfl (feq (by decide : ¬ ((9 : Int32) = (8 : Int32)))).2 (by decide) (by decide) ?_
    show Steps p.tables e below (s₁.setTop (mkF m 83 #[.val (.int (9 : Int32))] [])) _
    refine XS.iloadN X0.here hx rfl (hb hby d1_83) rfl ?_
    show Steps p.tables e below (s₁.setTop (mkF m 84 #[.val (.int (9 : Int32))] [(.int (9 : Int32))])) _
    refine XS.bipush X0.here hx rfl (hb hby d1_84) ?_
    show Steps p.tables e below (s₁.setTop (mkF m 86 #[.val (.int (9 : Int32))] [(.int (9 : Int32)), (.int (9 : Int32))])) _
    refine XS.icmpNo X0.here hx rfl (hb hby d1_86) rfl (teq (by decide : (9 : Int32) = (9 : Int32))).2 ?_
    show Steps p.tables e below (s₁.setTop (mkF m 89 #[.val (.int (9 : Int32))] [])) _
    exact kt
  obtain ⟨T2, X2, e2, st2⟩ := getS2 X0 hx hZ hown (host := "") (Or.inl (hw _ (own_w 36 rfl))) Via.refl e0 (SLEAVE_GROUP.ext O0.2) (g := (mkF m 89 #[.val (.int (9 : Int32))] [])) rfl (hb hby d1_89)
  have pre3 : own_Go p e below S0 (T2.setTop (mkF m 92 #[.val (.int (9 : Int32))] [(.ref wLEAVE_GROUP)])) := by
    intro t kt
    refine pre1 t ?_
    refine st2 _ ?_
    show Steps p.tables e below (T2.setTop (mkF m 92 #[.val (.int (9 : Int32))] [(.ref wLEAVE_GROUP)])) _
    exact kt
  obtain ⟨fs, hr, hrun, hended, hW, hsame⟩ := X2.leave (v := some (.ref wLEAVE_GROUP)) (fun h => by rw [Bd.returns] at h; cases h)
  refine ⟨_, _, fin _ (pre3 _ ?_), hrun, hended, _, _, rfl, ?_, ⟨_, rfl⟩, hW, hsame.mono (by decide) (by decide)⟩
  · jvm_step X2.here [X2.here.top, hx, (hb hby d1_92), X2.method', Bd.returns, Value.isRef, FieldType.isReference]
    first | (intro acts; rw [hr _ acts rfl rfl rfl]) | rw [hr _ _ rfl rfl rfl]
    exact Steps.refl _
  · show Q1n9 Z wLEAVE_GROUP h0 n0 _ T2.heap _
    rw [e2]
    exact ⟨rfl, N0, rfl⟩

theorem d1_93 : decode method_2_code 93 = .ok (.iload_n 0, 1) := by decide +kernel
theorem d1_94 : decode method_2_code 94 = .ok (.bipush 10, 2) := by decide +kernel
theorem d1_96 : decode method_2_code 96 = .ok (.if_icmp .ne 7, 3) := by decide +kernel
theorem d1_99 : decode method_2_code 99 = .ok (.getstatic 40, 3) := by decide +kernel
theorem d1_102 : decode method_2_code 102 = .ok (.areturn, 1) := by decide +kernel
theorem ef_1n10 (m : MethodId)  : entryFrame m #[(.int (10 : Int32))] 1 = mkF m 0 #[.val (.int (10 : Int32))] [] := by first | (simp [entryFrame, mkF, argsToLocals, Value.category]; done) | rfl
def Q1n10 (Z : State) (wSYNC_GROUP : Addr) (h0 : Heap) (n0 : Nat) (v : Option Value) (h : Heap) (L : List Loc) : Prop := v = (some (.ref wSYNC_GROUP)) ∧ Fr n0 L ∧ h = h0
set_option maxRecDepth 65536 in
set_option maxHeartbeats 40000000 in
theorem rm1n10 (l : Launch) (Z : State) (a0 : Array Value) (hw : ∀ d ∈ tables_1, d.before a0 Z = true) (ws : List Jvm.Cond) (wSYNC_GROUP : Addr) (h0 : Heap) (n0 : Nat) (Z0 : n0 ≤ h0.size) (O0 : Old Z n0 h0) (SSYNC_GROUP : Sta Z Z.heap "com/example/eurybates/eurybates/protocol/ApiKey" "SYNC_GROUP" "Lcom/example/eurybates/eurybates/protocol/ApiKey;" (.ref wSYNC_GROUP)) :
    MetFree l (⟨"com/example/eurybates/eurybates/protocol/ApiKeyImplementsVersionPinLaw", "pick", "(I)Lcom/example/eurybates/eurybates/protocol/ApiKey;"⟩ : MethodName) (head1 (Jvm.Cond.code (⟨"com/example/eurybates/eurybates/protocol/ApiKeyImplementsVersionPinLaw", "pick", "(I)Lcom/example/eurybates/eurybates/protocol/ApiKey;"⟩ : MethodName) method_2_code 1 (some (.object "com/example/eurybates/eurybates/protocol/ApiKey")) :: ws) ({ frames := 0, cells := 0, slots := 0, locals := 0 } : Room)) (fun a U => a = #[(.int (10 : Int32))] ∧ Z.Warmed39 U.vm ∧ U.heap = h0) (fun _ _ _ _ _ => True) (fun _ U o U' => ∃ v L, o = .returned v ∧ Q1n10 Z wSYNC_GROUP h0 n0 v U'.heap L ∧ FrameEnd U o U' L ({ frames := 0, cells := 0, slots := 0, locals := 0 } : Room).cells ({ frames := 0, cells := 0, slots := 0, locals := 0 } : Room).slots) := by
  refine MetFree.of_bodySF (plainFor_of_name pn_1) hisR ?_
  intro p e s m args below meth c s₁ Bd hml0 hP hK
  obtain ⟨rfl, hZ, hh⟩ := hP
  have hx := Bd.exec
  have hby := Bd.bytes
  have hml : c.maxLocals = 1 := hml0
  have hown0 := findClass_of_methodNamed Bd.named
  have hown : s.vm.findClass "com/example/eurybates/eurybates/protocol/ApiKeyImplementsVersionPinLaw" = some m.cls := hown0
  have hnm := (name_of_methodNamed Bd.named Bd.method).1
  have X0 : Stand p l e ({ frames := 0, cells := 0, slots := 0, locals := 0 } : Room) s m #[(.int (10 : Int32))] below meth c s₁ [] 0 0 := Stand.of_body Bd
  have e0 : s₁.heap = h0 := by rw [← hh, Bd.state]; rfl
  have N0 := Fr.nil n0
  obtain ⟨S0, hS0⟩ : ∃ z, z = s₁.setTop (entryFrame m #[(.int (10 : Int32))] 1) := ⟨_, rfl⟩
  have pre0 : own_Go p e below S0 (s₁.setTop (mkF m 0 #[.val (.int (10 : Int32))] [])) := fun t k => by rw [hS0]; exact castTop (ef_1n10 m ) k
  have fin : ∀ t, Steps p.tables e below S0 t → Steps p.tables e below (s₁.setTop (entryFrame m #[(.int (10 : Int32))] 1)) t := fun t k => by rw [hS0] at k; exact k
  have pre1 : own_Go p e below S0 (s₁.setTop (mkF m 99 #[.val (.int (10 : Int32))] [])) := by
    intro t kt
    refine pre0 t ?_
    refine XS.iloadN X0.here hx rfl (hb hby d1_0) rfl ?_
    show Steps p.tables e below (s₁.setTop (mkF m 1 #[.val (.int (10 : Int32))] [(.int (10 : Int32))])) _
    refine XS.ifYes X0.here hx rfl (pc0 := 1) (pc' := 8) rfl (hb hby d1_1) rfl ((if0 _ _).trans (feq (by decide : ¬ ((10 : Int32) = (0 : Int32)))).2) (by decide) (by decide) ?_
    show Steps p.tables e below (s₁.setTop (mkF m 8 #[.val (.int (10 : Int32))] [])) _
    refine XS.iloadN X0.here hx rfl (hb hby d1_8) rfl ?_
    show Steps p.tables e below (s₁.setTop (mkF m 9 #[.val (.int (10 : Int32))] [(.int (10 : Int32))])) _
    refine XS.iconst X0.here hx rfl (hb hby d1_9) ?_
    show Steps p.tables e below (s₁.setTop (mkF m 10 #[.val (.int (10 : Int32))] [(.int (1 : Int32)), (.int (10 : Int32))])) _
    refine XS.icmpYes X0.here hx rfl (pc0 := 10) (pc' := 17) rfl (hb hby d1_10) rfl (feq (by decide : ¬ ((10 : Int32) = (1 : Int32)))).2 (by decide) (by decide) ?_
    show Steps p.tables e below (s₁.setTop (mkF m 17 #[.val (.int (10 : Int32))] [])) _
    refine XS.iloadN X0.here hx rfl (hb hby d1_17) rfl ?_
    show Steps p.tables e below (s₁.setTop (mkF m 18 #[.val (.int (10 : Int32))] [(.int (10 : Int32))])) _
    refine XS.iconst X0.here hx rfl (hb hby d1_18) ?_
    show Steps p.tables e below (s₁.setTop (mkF m 19 #[.val (.int (10 : Int32))] [(.int (2 : Int32)), (.int (10 : Int32))])) _
    refine XS.icmpYes X0.here hx rfl (pc0 := 19) (pc' := 26) rfl (hb hby d1_19) rfl (feq (by decide : ¬ ((10 : Int32) = (2 : Int32)))).2 (by decide) (by decide) ?_
    show Steps p.tables e below (s₁.setTop (mkF m 26 #[.val (.int (10 : Int32))] [])) _
    refine XS.iloadN X0.here hx rfl (hb hby d1_26) rfl ?_
    show Steps p.tables e below (s₁.setTop (mkF m 27 #[.val (.int (10 : Int32))] [(.int (10 : Int32))])) _
    refine XS.iconst X0.here hx rfl (hb hby d1_27) ?_
    show Steps p.tables e below (s₁.setTop (mkF m 28 #[.val (.int (10 : Int32))] [(.int (3 : Int32)), (.int (10 : Int32))])) _
    refine XS.icmpYes X0.here hx rfl (pc0 := 28) (pc' := 35) rfl (hb hby d1_28) rfl (feq (by decide : ¬ ((10 : Int32) = (3 : Int32)))).2 (by decide) (by decide) ?_
    show Steps p.tables e below (s₁.setTop (mkF m 35 #[.val (.int (10 : Int32))] [])) _
    refine XS.iloadN X0.here hx rfl (hb hby d1_35) rfl ?_
    show Steps p.tables e below (s₁.setTop (mkF m 36 #[.val (.int (10 : Int32))] [(.int (10 : Int32))])) _
    refine XS.iconst X0.here hx rfl (hb hby d1_36) ?_
    show Steps p.tables e below (s₁.setTop (mkF m 37 #[.val (.int (10 : Int32))] [(.int (4 : Int32)), (.int (10 : Int32))])) _
    refine XS.icmpYes X0.here hx rfl (pc0 := 37) (pc' := 44) rfl (hb hby d1_37) rfl (feq (by decide : ¬ ((10 : Int32) = (4 : Int32)))).2 (by decide) (by decide) ?_
    show Steps p.tables e below (s₁.setTop (mkF m 44 #[.val (.int (10 : Int32))] [])) _
    refine XS.iloadN X0.here hx rfl (hb hby d1_44) rfl ?_
    show Steps p.tables e below (s₁.setTop (mkF m 45 #[.val (.int (10 : Int32))] [(.int (10 : Int32))])) _
    refine XS.iconst X0.here hx rfl (hb hby d1_45) ?_
    show Steps p.tables e below (s₁.setTop (mkF m 46 #[.val (.int (10 : Int32))] [(.int (5 : Int32)), (.int (10 : Int32))])) _
    refine XS.icmpYes X0.here hx rfl (pc0 := 46) (pc' := 53) rfl (hb hby d1_46) rfl (feq (by decide : ¬ ((10 : Int32) = (5 : Int32)))).2 (by decide) (by decide) ?_
    show Steps p.tables e below (s₁.setTop (mkF m 53 #[.val (.int (10 : Int32))] [])) _
    refine XS.iloadN X0.here hx rfl (hb hby d1_53) rfl ?_
    show Steps p.tables e below (s₁.setTop (mkF m 54 #[.val (.int (10 : Int32))] [(.int (10 : Int32))])) _
    refine XS.bipush X0.here hx rfl (hb hby d1_54) ?_
    show Steps p.tables e below (s₁.setTop (mkF m 56 #[.val (.int (10 : Int32))] [(.int (6 : Int32)), (.int (10 : Int32))])) _
    refine XS.icmpYes X0.here hx rfl (pc0 := 56) (pc' := 63) rfl (hb hby d1_56) rfl (feq (by decide : ¬ ((10 : Int32) = (6 : Int32)))).2 (by decide) (by decide) ?_
    show Steps p.tables e below (s₁.setTop (mkF m 63 #[.val (.int (10 : Int32))] [])) _
    refine XS.iloadN X0.here hx rfl (hb hby d1_63) rfl ?_
    show Steps p.tables e below (s₁.setTop (mkF m 64 #[.val (.int (10 : Int32))] [(.int (10 : Int32))])) _
    refine XS.bipush X0.here hx rfl (hb hby d1_64) ?_
    show Steps p.tables e below (s₁.setTop (mkF m 66 #[.val (.int (10 : Int32))] [(.int (7 : Int32)), (.int (10 : Int32))])) _
    refine XS.icmpYes X0.here hx rfl (pc0 := 66) (pc' := 73) rfl (hb hby d1_66) rfl (feq (by decide : ¬ ((10 : Int32) = (7 : Int32)))).2 (by decide) (by decide) ?_
    show Steps p.tables e below (s₁.setTop (mkF m 73 #[.val (.int (10 : Int32))] [])) _
    refine XS.iloadN X0.here hx rfl (hb hby d1_73) rfl ?_
    show Steps p.tables e below (s₁.setTop (mkF m 74 #[.val (.int (10 : Int32))] [(.int (10 : Int32))])) _
    refine XS.bipush X0.here hx rfl (hb hby d1_74) ?_
    show Steps p.tables e below (s₁.setTop (mkF m 76 #[.val (.int (10 : Int32))] [(.int (8 : Int32)), (.int (10 : Int32))])) _
    refine XS.icmpYes X0.here hx rfl (pc0 := 76) (pc' := 83) rfl (hb hby d1_76) rfl (feq (by decide : ¬ ((10 : Int32) = (8 : Int32)))).2 (by decide) (by decide) ?_
    show Steps p.tables e below (s₁.setTop (mkF m 83 #[.val (.int (10 : Int32))] [])) _
    refine XS.iloadN X0.here hx rfl (hb hby d1_83) rfl ?_
    show Steps p.tables e below (s₁.setTop (mkF m 84 #[.val (.int (10 : Int32))] [(.int (10 : Int32))])) _
    refine XS.bipush X0.here hx rfl (hb hby d1_84) ?_
    show Steps p.tables e below (s₁.setTop (mkF m 86 #[.val (.int (10 : Int32))] [(.int (9 : Int32)), (.int (10 : Int32))])) _
    refine XS.icmpYes X0.here hx rfl (pc0 := 86) (pc' := 93) rfl (hb hby d1_86) rfl (feq (by decide : ¬ ((10 : Int32) = (9 : Int32)))).2 (by decide) (by decide) ?_
    show Steps p.tables e below (s₁.setTop (mkF m 93 #[.val (.int (10 : Int32))] [])) _
    refine XS.iloadN X0.here hx rfl (hb hby d1_93) rfl ?_
    show Steps p.tables e below (s₁.setTop (mkF m 94 #[.val (.int (10 : Int32))] [(.int (10 : Int32))])) _
    refine XS.bipush X0.here hx rfl (hb hby d1_94) ?_
    show Steps p.tables e below (s₁.setTop (mkF m 96 #[.val (.int (10 : Int32))] [(.int (10 : Int32)), (.int (10 : Int32))])) _
    refine XS.icmpNo X0.here hx rfl (hb hby d1_96) rfl (teq (by decide : (10 : Int32) = (10 : Int32))).2 ?_
    show Steps p.tables e below (s₁.setTop (mkF m 99 #[.val (.int (10 : Int32))] [])) _
    exact kt
  obtain ⟨T2, X2, e2, st2⟩ := getS2 X0 hx hZ hown (host := "") (Or.inl (hw _ (own_w 38 rfl))) Via.refl e0 (SSYNC_GROUP.ext O0.2) (g := (mkF m 99 #[.val (.int (10 : Int32))] [])) rfl (hb hby d1_99)
  have pre3 : own_Go p e below S0 (T2.setTop (mkF m 102 #[.val (.int (10 : Int32))] [(.ref wSYNC_GROUP)])) := by
    intro t kt
    refine pre1 t ?_
    refine st2 _ ?_
    show Steps p.tables e below (T2.setTop (mkF m 102 #[.val (.int (10 : Int32))] [(.ref wSYNC_GROUP)])) _
    exact kt
  obtain ⟨fs, hr, hrun, hended, hW, hsame⟩ := X2.leave (v := some (.ref wSYNC_GROUP)) (fun h => by rw [Bd.returns] at h; cases h)
  refine ⟨_, _, fin _ (pre3 _ ?_), hrun, hended, _, _, rfl, ?_, ⟨_, rfl⟩, hW, hsame.mono (by decide) (by decide)⟩
  · jvm_step X2.here [X2.here.top, hx, (hb hby d1_102), X2.method', Bd.returns, Value.isRef, FieldType.isReference]
    first | (intro acts; rw [hr _ acts rfl rfl rfl]) | rw [hr _ _ rfl rfl rfl]
    exact Steps.refl _
  · show Q1n10 Z wSYNC_GROUP h0 n0 _ T2.heap _
    rw [e2]
    exact ⟨rfl, N0, rfl⟩

theorem d1_103 : decode method_2_code 103 = .ok (.iload_n 0, 1) := by decide +kernel
theorem d1_104 : decode method_2_code 104 = .ok (.bipush 11, 2) := by decide +kernel
theorem d1_106 : decode method_2_code 106 = .ok (.if_icmp .ne 7, 3) := by decide +kernel
theorem d1_109 : decode method_2_code 109 = .ok (.getstatic 43, 3) := by decide +kernel
theorem d1_112 : decode method_2_code 112 = .ok (.areturn, 1) := by decide +kernel
theorem ef_1n11 (m : MethodId)  : entryFrame m #[(.int (11 : Int32))] 1 = mkF m 0 #[.val (.int (11 : Int32))] [] := by first | (simp [entryFrame, mkF, argsToLocals, Value.category]; done) | rfl
def Q1n11 (Z : State) (wDESCRIBE_GROUPS : Addr) (h0 : Heap) (n0 : Nat) (v : Option Value) (h : Heap) (L : List Loc) : Prop := v = (some (.ref wDESCRIBE_GROUPS)) ∧ Fr n0 L ∧ h = h0
set_option maxRecDepth 65536 in
set_option maxHeartbeats 40000000 in
theorem rm1n11 (l : Launch) (Z : State) (a0 : Array Value) (hw : ∀ d ∈ tables_1, d.before a0 Z = true) (ws : List Jvm.Cond) (wDESCRIBE_GROUPS : Addr) (h0 : Heap) (n0 : Nat) (Z0 : n0 ≤ h0.size) (O0 : Old Z n0 h0) (SDESCRIBE_GROUPS : Sta Z Z.heap "com/example/eurybates/eurybates/protocol/ApiKey" "DESCRIBE_GROUPS" "Lcom/example/eurybates/eurybates/protocol/ApiKey;" (.ref wDESCRIBE_GROUPS)) :
    MetFree l (⟨"com/example/eurybates/eurybates/protocol/ApiKeyImplementsVersionPinLaw", "pick", "(I)Lcom/example/eurybates/eurybates/protocol/ApiKey;"⟩ : MethodName) (head1 (Jvm.Cond.code (⟨"com/example/eurybates/eurybates/protocol/ApiKeyImplementsVersionPinLaw", "pick", "(I)Lcom/example/eurybates/eurybates/protocol/ApiKey;"⟩ : MethodName) method_2_code 1 (some (.object "com/example/eurybates/eurybates/protocol/ApiKey")) :: ws) ({ frames := 0, cells := 0, slots := 0, locals := 0 } : Room)) (fun a U => a = #[(.int (11 : Int32))] ∧ Z.Warmed39 U.vm ∧ U.heap = h0) (fun _ _ _ _ _ => True) (fun _ U o U' => ∃ v L, o = .returned v ∧ Q1n11 Z wDESCRIBE_GROUPS h0 n0 v U'.heap L ∧ FrameEnd U o U' L ({ frames := 0, cells := 0, slots := 0, locals := 0 } : Room).cells ({ frames := 0, cells := 0, slots := 0, locals := 0 } : Room).slots) := by
  refine MetFree.of_bodySF (plainFor_of_name pn_1) hisR ?_
  intro p e s m args below meth c s₁ Bd hml0 hP hK
  obtain ⟨rfl, hZ, hh⟩ := hP
  have hx := Bd.exec
  have hby := Bd.bytes
  have hml : c.maxLocals = 1 := hml0
  have hown0 := findClass_of_methodNamed Bd.named
  have hown : s.vm.findClass "com/example/eurybates/eurybates/protocol/ApiKeyImplementsVersionPinLaw" = some m.cls := hown0
  have hnm := (name_of_methodNamed Bd.named Bd.method).1
  have X0 : Stand p l e ({ frames := 0, cells := 0, slots := 0, locals := 0 } : Room) s m #[(.int (11 : Int32))] below meth c s₁ [] 0 0 := Stand.of_body Bd
  have e0 : s₁.heap = h0 := by rw [← hh, Bd.state]; rfl
  have N0 := Fr.nil n0
  obtain ⟨S0, hS0⟩ : ∃ z, z = s₁.setTop (entryFrame m #[(.int (11 : Int32))] 1) := ⟨_, rfl⟩
  have pre0 : own_Go p e below S0 (s₁.setTop (mkF m 0 #[.val (.int (11 : Int32))] [])) := fun t k => by rw [hS0]; exact castTop (ef_1n11 m ) k
  have fin : ∀ t, Steps p.tables e below S0 t → Steps p.tables e below (s₁.setTop (entryFrame m #[(.int (11 : Int32))] 1)) t := fun t k => by rw [hS0] at k; exact k
  have pre1 : own_Go p e below S0 (s₁.setTop (mkF m 109 #[.val (.int (11 : Int32))] [])) := by
    intro t kt
    refine pre0 t ?_
    refine XS.iloadN X0.here hx rfl (hb hby d1_0) rfl ?_
    show Steps p.tables e below (s₁.setTop (mkF m 1 #[.val (.int (11 : Int32))] [(.int (11 : Int32))])) _
    refine XS.ifYes X0.here hx rfl (pc0 := 1) (pc' := 8) rfl (hb hby d1_1) rfl ((if0 _ _).trans (feq (by decide : ¬ ((11 : Int32) = (0 : Int32)))).2) (by decide) (by decide) ?_
    show Steps p.tables e below (s₁.setTop (mkF m 8 #[.val (.int (11 : Int32))] [])) _
    refine XS.iloadN X0.here hx rfl (hb hby d1_8) rfl ?_
    show Steps p.tables e below (s₁.setTop (mkF m 9 #[.val (.int (11 : Int32))] [(.int (11 : Int32))])) _
    refine XS.iconst X0.here hx rfl (hb hby d1_9) ?_
    show Steps p.tables e below (s₁.setTop (mkF m 10 #[.val (.int (11 : Int32))] [(.int (1 : Int32)), (.int (11 : Int32))])) _
    refine XS.icmpYes X0.here hx rfl (pc0 := 10) (pc' := 17) rfl (hb hby d1_10) rfl (feq (by decide : ¬ ((11 : Int32) = (1 : Int32)))).2 (by decide) (by decide) ?_
    show Steps p.tables e below (s₁.setTop (mkF m 17 #[.val (.int (11 : Int32))] [])) _
    refine XS.iloadN X0.here hx rfl (hb hby d1_17) rfl ?_
    show Steps p.tables e below (s₁.setTop (mkF m 18 #[.val (.int (11 : Int32))] [(.int (11 : Int32))])) _
    refine XS.iconst X0.here hx rfl (hb hby d1_18) ?_
    show Steps p.tables e below (s₁.setTop (mkF m 19 #[.val (.int (11 : Int32))] [(.int (2 : Int32)), (.int (11 : Int32))])) _
    refine XS.icmpYes X0.here hx rfl (pc0 := 19) (pc' := 26) rfl (hb hby d1_19) rfl (feq (by decide : ¬ ((11 : Int32) = (2 : Int32)))).2 (by decide) (by decide) ?_
    show Steps p.tables e below (s₁.setTop (mkF m 26 #[.val (.int (11 : Int32))] [])) _
    refine XS.iloadN X0.here hx rfl (hb hby d1_26) rfl ?_
    show Steps p.tables e below (s₁.setTop (mkF m 27 #[.val (.int (11 : Int32))] [(.int (11 : Int32))])) _
    refine XS.iconst X0.here hx rfl (hb hby d1_27) ?_
    show Steps p.tables e below (s₁.setTop (mkF m 28 #[.val (.int (11 : Int32))] [(.int (3 : Int32)), (.int (11 : Int32))])) _
    refine XS.icmpYes X0.here hx rfl (pc0 := 28) (pc' := 35) rfl (hb hby d1_28) rfl (feq (by decide : ¬ ((11 : Int32) = (3 : Int32)))).2 (by decide) (by decide) ?_
    show Steps p.tables e below (s₁.setTop (mkF m 35 #[.val (.int (11 : Int32))] [])) _
    refine XS.iloadN X0.here hx rfl (hb hby d1_35) rfl ?_
    show Steps p.tables e below (s₁.setTop (mkF m 36 #[.val (.int (11 : Int32))] [(.int (11 : Int32))])) _
    refine XS.iconst X0.here hx rfl (hb hby d1_36) ?_
    show Steps p.tables e below (s₁.setTop (mkF m 37 #[.val (.int (11 : Int32))] [(.int (4 : Int32)), (.int (11 : Int32))])) _
    refine XS.icmpYes X0.here hx rfl (pc0 := 37) (pc' := 44) rfl (hb hby d1_37) rfl (feq (by decide : ¬ ((11 : Int32) = (4 : Int32)))).2 (by decide) (by decide) ?_
    show Steps p.tables e below (s₁.setTop (mkF m 44 #[.val (.int (11 : Int32))] [])) _
    refine XS.iloadN X0.here hx rfl (hb hby d1_44) rfl ?_
    show Steps p.tables e below (s₁.setTop (mkF m 45 #[.val (.int (11 : Int32))] [(.int (11 : Int32))])) _
    refine XS.iconst X0.here hx rfl (hb hby d1_45) ?_
    show Steps p.tables e below (s₁.setTop (mkF m 46 #[.val (.int (11 : Int32))] [(.int (5 : Int32)), (.int (11 : Int32))])) _
    refine XS.icmpYes X0.here hx rfl (pc0 := 46) (pc' := 53) rfl (hb hby d1_46) rfl (feq (by decide : ¬ ((11 : Int32) = (5 : Int32)))).2 (by decide) (by decide) ?_
    show Steps p.tables e below (s₁.setTop (mkF m 53 #[.val (.int (11 : Int32))] [])) _
    refine XS.iloadN X0.here hx rfl (hb hby d1_53) rfl ?_
    show Steps p.tables e below (s₁.setTop (mkF m 54 #[.val (.int (11 : Int32))] [(.int (11 : Int32))])) _
    refine XS.bipush X0.here hx rfl (hb hby d1_54) ?_
    show Steps p.tables e below (s₁.setTop (mkF m 56 #[.val (.int (11 : Int32))] [(.int (6 : Int32)), (.int (11 : Int32))])) _
    refine XS.icmpYes X0.here hx rfl (pc0 := 56) (pc' := 63) rfl (hb hby d1_56) rfl (feq (by decide : ¬ ((11 : Int32) = (6 : Int32)))).2 (by decide) (by decide) ?_
    show Steps p.tables e below (s₁.setTop (mkF m 63 #[.val (.int (11 : Int32))] [])) _
    refine XS.iloadN X0.here hx rfl (hb hby d1_63) rfl ?_
    show Steps p.tables e below (s₁.setTop (mkF m 64 #[.val (.int (11 : Int32))] [(.int (11 : Int32))])) _
    refine XS.bipush X0.here hx rfl (hb hby d1_64) ?_
    show Steps p.tables e below (s₁.setTop (mkF m 66 #[.val (.int (11 : Int32))] [(.int (7 : Int32)), (.int (11 : Int32))])) _
    refine XS.icmpYes X0.here hx rfl (pc0 := 66) (pc' := 73) rfl (hb hby d1_66) rfl (feq (by decide : ¬ ((11 : Int32) = (7 : Int32)))).2 (by decide) (by decide) ?_
    show Steps p.tables e below (s₁.setTop (mkF m 73 #[.val (.int (11 : Int32))] [])) _
    refine XS.iloadN X0.here hx rfl (hb hby d1_73) rfl ?_
    show Steps p.tables e below (s₁.setTop (mkF m 74 #[.val (.int (11 : Int32))] [(.int (11 : Int32))])) _
    refine XS.bipush X0.here hx rfl (hb hby d1_74) ?_
    show Steps p.tables e below (s₁.setTop (mkF m 76 #[.val (.int (11 : Int32))] [(.int (8 : Int32)), (.int (11 : Int32))])) _
    refine XS.icmpYes X0.here hx rfl (pc0 := 76) (pc' := 83) rfl (hb hby d1_76) rfl (feq (by decide : ¬ ((11 : Int32) = (8 : Int32)))).2 (by decide) (by decide) ?_
    show Steps p.tables e below (s₁.setTop (mkF m 83 #[.val (.int (11 : Int32))] [])) _
    refine XS.iloadN X0.here hx rfl (hb hby d1_83) rfl ?_
    show Steps p.tables e below (s₁.setTop (mkF m 84 #[.val (.int (11 : Int32))] [(.int (11 : Int32))])) _
    refine XS.bipush X0.here hx rfl (hb hby d1_84) ?_
    show Steps p.tables e below (s₁.setTop (mkF m 86 #[.val (.int (11 : Int32))] [(.int (9 : Int32)), (.int (11 : Int32))])) _
    refine XS.icmpYes X0.here hx rfl (pc0 := 86) (pc' := 93) rfl (hb hby d1_86) rfl (feq (by decide : ¬ ((11 : Int32) = (9 : Int32)))).2 (by decide) (by decide) ?_
    show Steps p.tables e below (s₁.setTop (mkF m 93 #[.val (.int (11 : Int32))] [])) _
    refine XS.iloadN X0.here hx rfl (hb hby d1_93) rfl ?_
    show Steps p.tables e below (s₁.setTop (mkF m 94 #[.val (.int (11 : Int32))] [(.int (11 : Int32))])) _
    refine XS.bipush X0.here hx rfl (hb hby d1_94) ?_
    show Steps p.tables e below (s₁.setTop (mkF m 96 #[.val (.int (11 : Int32))] [(.int (10 : Int32)), (.int (11 : Int32))])) _
    refine XS.icmpYes X0.here hx rfl (pc0 := 96) (pc' := 103) rfl (hb hby d1_96) rfl (feq (by decide : ¬ ((11 : Int32) = (10 : Int32)))).2 (by decide) (by decide) ?_
    show Steps p.tables e below (s₁.setTop (mkF m 103 #[.val (.int (11 : Int32))] [])) _
    refine XS.iloadN X0.here hx rfl (hb hby d1_103) rfl ?_
    show Steps p.tables e below (s₁.setTop (mkF m 104 #[.val (.int (11 : Int32))] [(.int (11 : Int32))])) _
    refine XS.bipush X0.here hx rfl (hb hby d1_104) ?_
    show Steps p.tables e below (s₁.setTop (mkF m 106 #[.val (.int (11 : Int32))] [(.int (11 : Int32)), (.int (11 : Int32))])) _
    refine XS.icmpNo X0.here hx rfl (hb hby d1_106) rfl (teq (by decide : (11 : Int32) = (11 : Int32))).2 ?_
    show Steps p.tables e below (s₁.setTop (mkF m 109 #[.val (.int (11 : Int32))] [])) _
    exact kt
  obtain ⟨T2, X2, e2, st2⟩ := getS2 X0 hx hZ hown (host := "") (Or.inl (hw _ (own_w 30 rfl))) Via.refl e0 (SDESCRIBE_GROUPS.ext O0.2) (g := (mkF m 109 #[.val (.int (11 : Int32))] [])) rfl (hb hby d1_109)
  have pre3 : own_Go p e below S0 (T2.setTop (mkF m 112 #[.val (.int (11 : Int32))] [(.ref wDESCRIBE_GROUPS)])) := by
    intro t kt
    refine pre1 t ?_
    refine st2 _ ?_
    show Steps p.tables e below (T2.setTop (mkF m 112 #[.val (.int (11 : Int32))] [(.ref wDESCRIBE_GROUPS)])) _
    exact kt
  obtain ⟨fs, hr, hrun, hended, hW, hsame⟩ := X2.leave (v := some (.ref wDESCRIBE_GROUPS)) (fun h => by rw [Bd.returns] at h; cases h)
  refine ⟨_, _, fin _ (pre3 _ ?_), hrun, hended, _, _, rfl, ?_, ⟨_, rfl⟩, hW, hsame.mono (by decide) (by decide)⟩
  · jvm_step X2.here [X2.here.top, hx, (hb hby d1_112), X2.method', Bd.returns, Value.isRef, FieldType.isReference]
    first | (intro acts; rw [hr _ acts rfl rfl rfl]) | rw [hr _ _ rfl rfl rfl]
    exact Steps.refl _
  · show Q1n11 Z wDESCRIBE_GROUPS h0 n0 _ T2.heap _
    rw [e2]
    exact ⟨rfl, N0, rfl⟩

theorem d1_113 : decode method_2_code 113 = .ok (.iload_n 0, 1) := by decide +kernel
theorem d1_114 : decode method_2_code 114 = .ok (.bipush 12, 2) := by decide +kernel
theorem d1_116 : decode method_2_code 116 = .ok (.if_icmp .ne 7, 3) := by decide +kernel
theorem d1_119 : decode method_2_code 119 = .ok (.getstatic 46, 3) := by decide +kernel
theorem d1_122 : decode method_2_code 122 = .ok (.areturn, 1) := by decide +kernel
theorem ef_1n12 (m : MethodId)  : entryFrame m #[(.int (12 : Int32))] 1 = mkF m 0 #[.val (.int (12 : Int32))] [] := by first | (simp [entryFrame, mkF, argsToLocals, Value.category]; done) | rfl
def Q1n12 (Z : State) (wLIST_GROUPS : Addr) (h0 : Heap) (n0 : Nat) (v : Option Value) (h : Heap) (L : List Loc) : Prop := v = (some (.ref wLIST_GROUPS)) ∧ Fr n0 L ∧ h = h0
set_option maxRecDepth 65536 in
set_option maxHeartbeats 40000000 in
theorem rm1n12 (l : Launch) (Z : State) (a0 : Array Value) (hw : ∀ d ∈ tables_1, d.before a0 Z = true) (ws : List Jvm.Cond) (wLIST_GROUPS : Addr) (h0 : Heap) (n0 : Nat) (Z0 : n0 ≤ h0.size) (O0 : Old Z n0 h0) (SLIST_GROUPS : Sta Z Z.heap "com/example/eurybates/eurybates/protocol/ApiKey" "LIST_GROUPS" "Lcom/example/eurybates/eurybates/protocol/ApiKey;" (.ref wLIST_GROUPS)) :
    MetFree l (⟨"com/example/eurybates/eurybates/protocol/ApiKeyImplementsVersionPinLaw", "pick", "(I)Lcom/example/eurybates/eurybates/protocol/ApiKey;"⟩ : MethodName) (head1 (Jvm.Cond.code (⟨"com/example/eurybates/eurybates/protocol/ApiKeyImplementsVersionPinLaw", "pick", "(I)Lcom/example/eurybates/eurybates/protocol/ApiKey;"⟩ : MethodName) method_2_code 1 (some (.object "com/example/eurybates/eurybates/protocol/ApiKey")) :: ws) ({ frames := 0, cells := 0, slots := 0, locals := 0 } : Room)) (fun a U => a = #[(.int (12 : Int32))] ∧ Z.Warmed39 U.vm ∧ U.heap = h0) (fun _ _ _ _ _ => True) (fun _ U o U' => ∃ v L, o = .returned v ∧ Q1n12 Z wLIST_GROUPS h0 n0 v U'.heap L ∧ FrameEnd U o U' L ({ frames := 0, cells := 0, slots := 0, locals := 0 } : Room).cells ({ frames := 0, cells := 0, slots := 0, locals := 0 } : Room).slots) := by
  refine MetFree.of_bodySF (plainFor_of_name pn_1) hisR ?_
  intro p e s m args below meth c s₁ Bd hml0 hP hK
  obtain ⟨rfl, hZ, hh⟩ := hP
  have hx := Bd.exec
  have hby := Bd.bytes
  have hml : c.maxLocals = 1 := hml0
  have hown0 := findClass_of_methodNamed Bd.named
  have hown : s.vm.findClass "com/example/eurybates/eurybates/protocol/ApiKeyImplementsVersionPinLaw" = some m.cls := hown0
  have hnm := (name_of_methodNamed Bd.named Bd.method).1
  have X0 : Stand p l e ({ frames := 0, cells := 0, slots := 0, locals := 0 } : Room) s m #[(.int (12 : Int32))] below meth c s₁ [] 0 0 := Stand.of_body Bd
  have e0 : s₁.heap = h0 := by rw [← hh, Bd.state]; rfl
  have N0 := Fr.nil n0
  obtain ⟨S0, hS0⟩ : ∃ z, z = s₁.setTop (entryFrame m #[(.int (12 : Int32))] 1) := ⟨_, rfl⟩
  have pre0 : own_Go p e below S0 (s₁.setTop (mkF m 0 #[.val (.int (12 : Int32))] [])) := fun t k => by rw [hS0]; exact castTop (ef_1n12 m ) k
  have fin : ∀ t, Steps p.tables e below S0 t → Steps p.tables e below (s₁.setTop (entryFrame m #[(.int (12 : Int32))] 1)) t := fun t k => by rw [hS0] at k; exact k
  have pre1 : own_Go p e below S0 (s₁.setTop (mkF m 119 #[.val (.int (12 : Int32))] [])) := by
    intro t kt
    refine pre0 t ?_
    refine XS.iloadN X0.here hx rfl (hb hby d1_0) rfl ?_
    show Steps p.tables e below (s₁.setTop (mkF m 1 #[.val (.int (12 : Int32))] [(.int (12 : Int32))])) _
    refine XS.ifYes X0.here hx rfl (pc0 := 1) (pc' := 8) rfl (hb hby d1_1) rfl ((if0 _ _).trans (feq (by decide : ¬ ((12 : Int32) = (0 : Int32)))).2) (by decide) (by decide) ?_
    show Steps p.tables e below (s₁.setTop (mkF m 8 #[.val (.int (12 : Int32))] [])) _
    refine XS.iloadN X0.here hx rfl (hb hby d1_8) rfl ?_
    show Steps p.tables e below (s₁.setTop (mkF m 9 #[.val (.int (12 : Int32))] [(.int (12 : Int32))])) _
    refine XS.iconst X0.here hx rfl (hb hby d1_9) ?_
    show Steps p.tables e below (s₁.setTop (mkF m 10 #[.val (.int (12 : Int32))] [(.int (1 : Int32)), (.int (12 : Int32))])) _
    refine XS.icmpYes X0.here hx rfl (pc0 := 10) (pc' := 17) rfl (hb hby d1_10) rfl (feq (by decide : ¬ ((12 : Int32) = (1 : Int32)))).2 (by decide) (by decide) ?_
    show Steps p.tables e below (s₁.setTop (mkF m 17 #[.val (.int (12 : Int32))] [])) _
    refine XS.iloadN X0.here hx rfl (hb hby d1_17) rfl ?_
    show Steps p.tables e below (s₁.setTop (mkF m 18 #[.val (.int (12 : Int32))] [(.int (12 : Int32))])) _
    refine XS.iconst X0.here hx rfl (hb hby d1_18) ?_
    show Steps p.tables e below (s₁.setTop (mkF m 19 #[.val (.int (12 : Int32))] [(.int (2 : Int32)), (.int (12 : Int32))])) _
    refine XS.icmpYes X0.here hx rfl (pc0 := 19) (pc' := 26) rfl (hb hby d1_19) rfl (feq (by decide : ¬ ((12 : Int32) = (2 : Int32)))).2 (by decide) (by decide) ?_
    show Steps p.tables e below (s₁.setTop (mkF m 26 #[.val (.int (12 : Int32))] [])) _
    refine XS.iloadN X0.here hx rfl (hb hby d1_26) rfl ?_
    show Steps p.tables e below (s₁.setTop (mkF m 27 #[.val (.int (12 : Int32))] [(.int (12 : Int32))])) _
    refine XS.iconst X0.here hx rfl (hb hby d1_27) ?_
    show Steps p.tables e below (s₁.setTop (mkF m 28 #[.val (.int (12 : Int32))] [(.int (3 : Int32)), (.int (12 : Int32))])) _
    refine XS.icmpYes X0.here hx rfl (pc0 := 28) (pc' := 35) rfl (hb hby d1_28) rfl (feq (by decide : ¬ ((12 : Int32) = (3 : Int32)))).2 (by decide) (by decide) ?_
    show Steps p.tables e below (s₁.setTop (mkF m 35 #[.val (.int (12 : Int32))] [])) _
    refine XS.iloadN X0.here hx rfl (hb hby d1_35) rfl ?_
    show Steps p.tables e below (s₁.setTop (mkF m 36 #[.val (.int (12 : Int32))] [(.int (12 : Int32))])) _
    refine XS.iconst X0.here hx rfl (hb hby d1_36) ?_
    show Steps p.tables e below (s₁.setTop (mkF m 37 #[.val (.int (12 : Int32))] [(.int (4 : Int32)), (.int (12 : Int32))])) _
    refine XS.icmpYes X0.here hx rfl (pc0 := 37) (pc' := 44) rfl (hb hby d1_37) rfl (feq (by decide : ¬ ((12 : Int32) = (4 : Int32)))).2 (by decide) (by decide) ?_
    show Steps p.tables e below (s₁.setTop (mkF m 44 #[.val (.int (12 : Int32))] [])) _
    refine XS.iloadN X0.here hx rfl (hb hby d1_44) rfl ?_
    show Steps p.tables e below (s₁.setTop (mkF m 45 #[.val (.int (12 : Int32))] [(.int (12 : Int32))])) _
    refine XS.iconst X0.here hx rfl (hb hby d1_45) ?_
    show Steps p.tables e below (s₁.setTop (mkF m 46 #[.val (.int (12 : Int32))] [(.int (5 : Int32)), (.int (12 : Int32))])) _
    refine XS.icmpYes X0.here hx rfl (pc0 := 46) (pc' := 53) rfl (hb hby d1_46) rfl (feq (by decide : ¬ ((12 : Int32) = (5 : Int32)))).2 (by decide) (by decide) ?_
    show Steps p.tables e below (s₁.setTop (mkF m 53 #[.val (.int (12 : Int32))] [])) _
    refine XS.iloadN X0.here hx rfl (hb hby d1_53) rfl ?_
    show Steps p.tables e below (s₁.setTop (mkF m 54 #[.val (.int (12 : Int32))] [(.int (12 : Int32))])) _
    refine XS.bipush X0.here hx rfl (hb hby d1_54) ?_
    show Steps p.tables e below (s₁.setTop (mkF m 56 #[.val (.int (12 : Int32))] [(.int (6 : Int32)), (.int (12 : Int32))])) _
    refine XS.icmpYes X0.here hx rfl (pc0 := 56) (pc' := 63) rfl (hb hby d1_56) rfl (feq (by decide : ¬ ((12 : Int32) = (6 : Int32)))).2 (by decide) (by decide) ?_
    show Steps p.tables e below (s₁.setTop (mkF m 63 #[.val (.int (12 : Int32))] [])) _
    refine XS.iloadN X0.here hx rfl (hb hby d1_63) rfl ?_
    show Steps p.tables e below (s₁.setTop (mkF m 64 #[.val (.int (12 : Int32))] [(.int (12 : Int32))])) _
    refine XS.bipush X0.here hx rfl (hb hby d1_64) ?_
    show Steps p.tables e below (s₁.setTop (mkF m 66 #[.val (.int (12 : Int32))] [(.int (7 : Int32)), (.int (12 : Int32))])) _
    refine XS.icmpYes X0.here hx rfl (pc0 := 66) (pc' := 73) rfl (hb hby d1_66) rfl (feq (by decide : ¬ ((12 : Int32) = (7 : Int32)))).2 (by decide) (by decide) ?_
    show Steps p.tables e below (s₁.setTop (mkF m 73 #[.val (.int (12 : Int32))] [])) _
    refine XS.iloadN X0.here hx rfl (hb hby d1_73) rfl ?_
    show Steps p.tables e below (s₁.setTop (mkF m 74 #[.val (.int (12 : Int32))] [(.int (12 : Int32))])) _
    refine XS.bipush X0.here hx rfl (hb hby d1_74) ?_
    show Steps p.tables e below (s₁.setTop (mkF m 76 #[.val (.int (12 : Int32))] [(.int (8 : Int32)), (.int (12 : Int32))])) _
    refine XS.icmpYes X0.here hx rfl (pc0 := 76) (pc' := 83) rfl (hb hby d1_76) rfl (feq (by decide : ¬ ((12 : Int32) = (8 : Int32)))).2 (by decide) (by decide) ?_
    show Steps p.tables e below (s₁.setTop (mkF m 83 #[.val (.int (12 : Int32))] [])) _
    refine XS.iloadN X0.here hx rfl (hb hby d1_83) rfl ?_
    show Steps p.tables e below (s₁.setTop (mkF m 84 #[.val (.int (12 : Int32))] [(.int (12 : Int32))])) _
    refine XS.bipush X0.here hx rfl (hb hby d1_84) ?_
    show Steps p.tables e below (s₁.setTop (mkF m 86 #[.val (.int (12 : Int32))] [(.int (9 : Int32)), (.int (12 : Int32))])) _
    refine XS.icmpYes X0.here hx rfl (pc0 := 86) (pc' := 93) rfl (hb hby d1_86) rfl (feq (by decide : ¬ ((12 : Int32) = (9 : Int32)))).2 (by decide) (by decide) ?_
    show Steps p.tables e below (s₁.setTop (mkF m 93 #[.val (.int (12 : Int32))] [])) _
    refine XS.iloadN X0.here hx rfl (hb hby d1_93) rfl ?_
    show Steps p.tables e below (s₁.setTop (mkF m 94 #[.val (.int (12 : Int32))] [(.int (12 : Int32))])) _
    refine XS.bipush X0.here hx rfl (hb hby d1_94) ?_
    show Steps p.tables e below (s₁.setTop (mkF m 96 #[.val (.int (12 : Int32))] [(.int (10 : Int32)), (.int (12 : Int32))])) _
    refine XS.icmpYes X0.here hx rfl (pc0 := 96) (pc' := 103) rfl (hb hby d1_96) rfl (feq (by decide : ¬ ((12 : Int32) = (10 : Int32)))).2 (by decide) (by decide) ?_
    show Steps p.tables e below (s₁.setTop (mkF m 103 #[.val (.int (12 : Int32))] [])) _
    refine XS.iloadN X0.here hx rfl (hb hby d1_103) rfl ?_
    show Steps p.tables e below (s₁.setTop (mkF m 104 #[.val (.int (12 : Int32))] [(.int (12 : Int32))])) _
    refine XS.bipush X0.here hx rfl (hb hby d1_104) ?_
    show Steps p.tables e below (s₁.setTop (mkF m 106 #[.val (.int (12 : Int32))] [(.int (11 : Int32)), (.int (12 : Int32))])) _
    refine XS.icmpYes X0.here hx rfl (pc0 := 106) (pc' := 113) rfl (hb hby d1_106) rfl (feq (by decide : ¬ ((12 : Int32) = (11 : Int32)))).2 (by decide) (by decide) ?_
    show Steps p.tables e below (s₁.setTop (mkF m 113 #[.val (.int (12 : Int32))] [])) _
    refine XS.iloadN X0.here hx rfl (hb hby d1_113) rfl ?_
    show Steps p.tables e below (s₁.setTop (mkF m 114 #[.val (.int (12 : Int32))] [(.int (12 : Int32))])) _
    refine XS.bipush X0.here hx rfl (hb hby d1_114) ?_
    show Steps p.tables e below (s₁.setTop (mkF m 116 #[.val (.int (12 : Int32))] [(.int (12 : Int32)), (.int (12 : Int32))])) _
    refine XS.icmpNo X0.here hx rfl (hb hby d1_116) rfl (teq (by decide : (12 : Int32) = (12 : Int32))).2 ?_
    show Steps p.tables e below (s₁.setTop (mkF m 119 #[.val (.int (12 : Int32))] [])) _
    exact kt
  obtain ⟨T2, X2, e2, st2⟩ := getS2 X0 hx hZ hown (host := "") (Or.inl (hw _ (own_w 28 rfl))) Via.refl e0 (SLIST_GROUPS.ext O0.2) (g := (mkF m 119 #[.val (.int (12 : Int32))] [])) rfl (hb hby d1_119)
  have pre3 : own_Go p e below S0 (T2.setTop (mkF m 122 #[.val (.int (12 : Int32))] [(.ref wLIST_GROUPS)])) := by
    intro t kt
    refine pre1 t ?_
    refine st2 _ ?_
    show Steps p.tables e below (T2.setTop (mkF m 122 #[.val (.int (12 : Int32))] [(.ref wLIST_GROUPS)])) _
    exact kt
  obtain ⟨fs, hr, hrun, hended, hW, hsame⟩ := X2.leave (v := some (.ref wLIST_GROUPS)) (fun h => by rw [Bd.returns] at h; cases h)
  refine ⟨_, _, fin _ (pre3 _ ?_), hrun, hended, _, _, rfl, ?_, ⟨_, rfl⟩, hW, hsame.mono (by decide) (by decide)⟩
  · jvm_step X2.here [X2.here.top, hx, (hb hby d1_122), X2.method', Bd.returns, Value.isRef, FieldType.isReference]
    first | (intro acts; rw [hr _ acts rfl rfl rfl]) | rw [hr _ _ rfl rfl rfl]
    exact Steps.refl _
  · show Q1n12 Z wLIST_GROUPS h0 n0 _ T2.heap _
    rw [e2]
    exact ⟨rfl, N0, rfl⟩

theorem d1_123 : decode method_2_code 123 = .ok (.iload_n 0, 1) := by decide +kernel
theorem d1_124 : decode method_2_code 124 = .ok (.bipush 13, 2) := by decide +kernel
theorem d1_126 : decode method_2_code 126 = .ok (.if_icmp .ne 7, 3) := by decide +kernel
theorem d1_129 : decode method_2_code 129 = .ok (.getstatic 49, 3) := by decide +kernel
theorem d1_132 : decode method_2_code 132 = .ok (.areturn, 1) := by decide +kernel
theorem ef_1n13 (m : MethodId)  : entryFrame m #[(.int (13 : Int32))] 1 = mkF m 0 #[.val (.int (13 : Int32))] [] := by first | (simp [entryFrame, mkF, argsToLocals, Value.category]; done) | rfl
def Q1n13 (Z : State) (wAPI_VERSIONS : Addr) (h0 : Heap) (n0 : Nat) (v : Option Value) (h : Heap) (L : List Loc) : Prop := v = (some (.ref wAPI_VERSIONS)) ∧ Fr n0 L ∧ h = h0
set_option maxRecDepth 65536 in
set_option maxHeartbeats 40000000 in
theorem rm1n13 (l : Launch) (Z : State) (a0 : Array Value) (hw : ∀ d ∈ tables_1, d.before a0 Z = true) (ws : List Jvm.Cond) (wAPI_VERSIONS : Addr) (h0 : Heap) (n0 : Nat) (Z0 : n0 ≤ h0.size) (O0 : Old Z n0 h0) (SAPI_VERSIONS : Sta Z Z.heap "com/example/eurybates/eurybates/protocol/ApiKey" "API_VERSIONS" "Lcom/example/eurybates/eurybates/protocol/ApiKey;" (.ref wAPI_VERSIONS)) :
    MetFree l (⟨"com/example/eurybates/eurybates/protocol/ApiKeyImplementsVersionPinLaw", "pick", "(I)Lcom/example/eurybates/eurybates/protocol/ApiKey;"⟩ : MethodName) (head1 (Jvm.Cond.code (⟨"com/example/eurybates/eurybates/protocol/ApiKeyImplementsVersionPinLaw", "pick", "(I)Lcom/example/eurybates/eurybates/protocol/ApiKey;"⟩ : MethodName) method_2_code 1 (some (.object "com/example/eurybates/eurybates/protocol/ApiKey")) :: ws) ({ frames := 0, cells := 0, slots := 0, locals := 0 } : Room)) (fun a U => a = #[(.int (13 : Int32))] ∧ Z.Warmed39 U.vm ∧ U.heap = h0) (fun _ _ _ _ _ => True) (fun _ U o U' => ∃ v L, o = .returned v ∧ Q1n13 Z wAPI_VERSIONS h0 n0 v U'.heap L ∧ FrameEnd U o U' L ({ frames := 0, cells := 0, slots := 0, locals := 0 } : Room).cells ({ frames := 0, cells := 0, slots := 0, locals := 0 } : Room).slots) := by
  refine MetFree.of_bodySF (plainFor_of_name pn_1) hisR ?_
  intro p e s m args below meth c s₁ Bd hml0 hP hK
  obtain ⟨rfl, hZ, hh⟩ := hP
  have hx := Bd.exec
  have hby := Bd.bytes
  have hml : c.maxLocals = 1 := hml0
  have hown0 := findClass_of_methodNamed Bd.named
  have hown : s.vm.findClass "com/example/eurybates/eurybates/protocol/ApiKeyImplementsVersionPinLaw" = some m.cls := hown0
  have hnm := (name_of_methodNamed Bd.named Bd.method).1
  have X0 : Stand p l e ({ frames := 0, cells := 0, slots := 0, locals := 0 } : Room) s m #[(.int (13 : Int32))] below meth c s₁ [] 0 0 := Stand.of_body Bd
  have e0 : s₁.heap = h0 := by rw [← hh, Bd.state]; rfl
  have N0 := Fr.nil n0
  obtain ⟨S0, hS0⟩ : ∃ z, z = s₁.setTop (entryFrame m #[(.int (13 : Int32))] 1) := ⟨_, rfl⟩
  have pre0 : own_Go p e below S0 (s₁.setTop (mkF m 0 #[.val (.int (13 : Int32))] [])) := fun t k => by rw [hS0]; exact castTop (ef_1n13 m ) k
  have fin : ∀ t, Steps p.tables e below S0 t → Steps p.tables e below (s₁.setTop (entryFrame m #[(.int (13 : Int32))] 1)) t := fun t k => by rw [hS0] at k; exact k
  have pre1 : own_Go p e below S0 (s₁.setTop (mkF m 129 #[.val (.int (13 : Int32))] [])) := by
    intro t kt
    refine pre0 t ?_
    refine XS.iloadN X0.here hx rfl (hb hby d1_0) rfl ?_
    show Steps p.tables e below (s₁.setTop (mkF m 1 #[.val (.int (13 : Int32))] [(.int (13 : Int32))])) _
    refine XS.ifYes X0.here hx rfl (pc0 := 1) (pc' := 8) rfl (hb hby d1_1) rfl ((if0 _ _).trans (feq (by decide : ¬ ((13 : Int32) = (0 : Int32)))).2) (by decide) (by decide) ?_
    show Steps p.tables e below (s₁.setTop (mkF m 8 #[.val (.int (13 : Int32))] [])) _
    refine XS.iloadN X0.here hx rfl (hb hby d1_8) rfl ?_
    show Steps p.tables e below (s₁.setTop (mkF m 9 #[.val (.int (13 : Int32))] [(.int (13 : Int32))])) _
    refine XS.iconst X0.here hx rfl (hb hby d1_9) ?_
    show Steps p.tables e below (s₁.setTop (mkF m 10 #[.val (.int (13 : Int32))] [(.int (1 : Int32)), (.int (13 : Int32))])) _
    refine XS.icmpYes X0.here hx rfl (pc0 := 10) (pc' := 17) rfl (hb hby d1_10) rfl (feq (by decide : ¬ ((13 : Int32) = (1 : Int32)))).2 (by decide) (by decide) ?_
    show Steps p.tables e below (s₁.setTop (mkF m 17 #[.val (.int (13 : Int32))] [])) _
    refine XS.iloadN X0.here hx rfl (hb hby d1_17) rfl ?_
    show Steps p.tables e below (s₁.setTop (mkF m 18 #[.val (.int (13 : Int32))] [(.int (13 : Int32))])) _
    refine XS.iconst X0.here hx rfl (hb hby d1_18) ?_
    show Steps p.tables e below (s₁.setTop (mkF m 19 #[.val (.int (13 : Int32))] [(.int (2 : Int32)), (.int (13 : Int32))])) _
    refine XS.icmpYes X0.here hx rfl (pc0 := 19) (pc' := 26) rfl (hb hby d1_19) rfl (feq (by decide : ¬ ((13 : Int32) = (2 : Int32)))).2 (by decide) (by decide) ?_
    show Steps p.tables e below (s₁.setTop (mkF m 26 #[.val (.int (13 : Int32))] [])) _
    refine XS.iloadN X0.here hx rfl (hb hby d1_26) rfl ?_
    show Steps p.tables e below (s₁.setTop (mkF m 27 #[.val (.int (13 : Int32))] [(.int (13 : Int32))])) _
    refine XS.iconst X0.here hx rfl (hb hby d1_27) ?_
    show Steps p.tables e below (s₁.setTop (mkF m 28 #[.val (.int (13 : Int32))] [(.int (3 : Int32)), (.int (13 : Int32))])) _
    refine XS.icmpYes X0.here hx rfl (pc0 := 28) (pc' := 35) rfl (hb hby d1_28) rfl (feq (by decide : ¬ ((13 : Int32) = (3 : Int32)))).2 (by decide) (by decide) ?_
    show Steps p.tables e below (s₁.setTop (mkF m 35 #[.val (.int (13 : Int32))] [])) _
    refine XS.iloadN X0.here hx rfl (hb hby d1_35) rfl ?_
    show Steps p.tables e below (s₁.setTop (mkF m 36 #[.val (.int (13 : Int32))] [(.int (13 : Int32))])) _
    refine XS.iconst X0.here hx rfl (hb hby d1_36) ?_
    show Steps p.tables e below (s₁.setTop (mkF m 37 #[.val (.int (13 : Int32))] [(.int (4 : Int32)), (.int (13 : Int32))])) _
    refine XS.icmpYes X0.here hx rfl (pc0 := 37) (pc' := 44) rfl (hb hby d1_37) rfl (feq (by decide : ¬ ((13 : Int32) = (4 : Int32)))).2 (by decide) (by decide) ?_
    show Steps p.tables e below (s₁.setTop (mkF m 44 #[.val (.int (13 : Int32))] [])) _
    refine XS.iloadN X0.here hx rfl (hb hby d1_44) rfl ?_
    show Steps p.tables e below (s₁.setTop (mkF m 45 #[.val (.int (13 : Int32))] [(.int (13 : Int32))])) _
    refine XS.iconst X0.here hx rfl (hb hby d1_45) ?_
    show Steps p.tables e below (s₁.setTop (mkF m 46 #[.val (.int (13 : Int32))] [(.int (5 : Int32)), (.int (13 : Int32))])) _
    refine XS.icmpYes X0.here hx rfl (pc0 := 46) (pc' := 53) rfl (hb hby d1_46) rfl (feq (by decide : ¬ ((13 : Int32) = (5 : Int32)))).2 (by decide) (by decide) ?_
    show Steps p.tables e below (s₁.setTop (mkF m 53 #[.val (.int (13 : Int32))] [])) _
    refine XS.iloadN X0.here hx rfl (hb hby d1_53) rfl ?_
    show Steps p.tables e below (s₁.setTop (mkF m 54 #[.val (.int (13 : Int32))] [(.int (13 : Int32))])) _
    refine XS.bipush X0.here hx rfl (hb hby d1_54) ?_
    show Steps p.tables e below (s₁.setTop (mkF m 56 #[.val (.int (13 : Int32))] [(.int (6 : Int32)), (.int (13 : Int32))])) _
    refine XS.icmpYes X0.here hx rfl (pc0 := 56) (pc' := 63) rfl (hb hby d1_56) rfl (feq (by decide : ¬ ((13 : Int32) = (6 : Int32)))).2 (by decide) (by decide) ?_
    show Steps p.tables e below (s₁.setTop (mkF m 63 #[.val (.int (13 : Int32))] [])) _
    refine XS.iloadN X0.here hx rfl (hb hby d1_63) rfl ?_
    show Steps p.tables e below (s₁.setTop (mkF m 64 #[.val (.int (13 : Int32))] [(.int (13 : Int32))])) _
    refine XS.bipush X0.here hx rfl (hb hby d1_64) ?_
    show Steps p.tables e below (s₁.setTop (mkF m 66 #[.val (.int (13 : Int32))] [(.int (7 : Int32)), (.int (13 : Int32))])) _
    refine XS.icmpYes X0.here hx rfl (pc0 := 66) (pc' := 73) rfl (hb hby d1_66) rfl (feq (by decide : ¬ ((13 : Int32) = (7 : Int32)))).2 (by decide) (by decide) ?_
    show Steps p.tables e below (s₁.setTop (mkF m 73 #[.val (.int (13 : Int32))] [])) _
    refine XS.iloadN X0.here hx rfl (hb hby d1_73) rfl ?_
    show Steps p.tables e below (s₁.setTop (mkF m 74 #[.val (.int (13 : Int32))] [(.int (13 : Int32))])) _
    refine XS.bipush X0.here hx rfl (hb hby d1_74) ?_
    show Steps p.tables e below (s₁.setTop (mkF m 76 #[.val (.int (13 : Int32))] [(.int (8 : Int32)), (.int (13 : Int32))])) _
    refine XS.icmpYes X0.here hx rfl (pc0 := 76) (pc' := 83) rfl (hb hby d1_76) rfl (feq (by decide : ¬ ((13 : Int32) = (8 : Int32)))).2 (by decide) (by decide) ?_
    show Steps p.tables e below (s₁.setTop (mkF m 83 #[.val (.int (13 : Int32))] [])) _
    refine XS.iloadN X0.here hx rfl (hb hby d1_83) rfl ?_
    show Steps p.tables e below (s₁.setTop (mkF m 84 #[.val (.int (13 : Int32))] [(.int (13 : Int32))])) _
    refine XS.bipush X0.here hx rfl (hb hby d1_84) ?_
    show Steps p.tables e below (s₁.setTop (mkF m 86 #[.val (.int (13 : Int32))] [(.int (9 : Int32)), (.int (13 : Int32))])) _
    refine XS.icmpYes X0.here hx rfl (pc0 := 86) (pc' := 93) rfl (hb hby d1_86) rfl (feq (by decide : ¬ ((13 : Int32) = (9 : Int32)))).2 (by decide) (by decide) ?_
    show Steps p.tables e below (s₁.setTop (mkF m 93 #[.val (.int (13 : Int32))] [])) _
    refine XS.iloadN X0.here hx rfl (hb hby d1_93) rfl ?_
    show Steps p.tables e below (s₁.setTop (mkF m 94 #[.val (.int (13 : Int32))] [(.int (13 : Int32))])) _
    refine XS.bipush X0.here hx rfl (hb hby d1_94) ?_
    show Steps p.tables e below (s₁.setTop (mkF m 96 #[.val (.int (13 : Int32))] [(.int (10 : Int32)), (.int (13 : Int32))])) _
    refine XS.icmpYes X0.here hx rfl (pc0 := 96) (pc' := 103) rfl (hb hby d1_96) rfl (feq (by decide : ¬ ((13 : Int32) = (10 : Int32)))).2 (by decide) (by decide) ?_
    show Steps p.tables e below (s₁.setTop (mkF m 103 #[.val (.int (13 : Int32))] [])) _
    refine XS.iloadN X0.here hx rfl (hb hby d1_103) rfl ?_
    show Steps p.tables e below (s₁.setTop (mkF m 104 #[.val (.int (13 : Int32))] [(.int (13 : Int32))])) _
    refine XS.bipush X0.here hx rfl (hb hby d1_104) ?_
    show Steps p.tables e below (s₁.setTop (mkF m 106 #[.val (.int (13 : Int32))] [(.int (11 : Int32)), (.int (13 : Int32))])) _
    refine XS.icmpYes X0.here hx rfl (pc0 := 106) (pc' := 113) rfl (hb hby d1_106) rfl (feq (by decide : ¬ ((13 : Int32) = (11 : Int32)))).2 (by decide) (by decide) ?_
    show Steps p.tables e below (s₁.setTop (mkF m 113 #[.val (.int (13 : Int32))] [])) _
    refine XS.iloadN X0.here hx rfl (hb hby d1_113) rfl ?_
    show Steps p.tables e below (s₁.setTop (mkF m 114 #[.val (.int (13 : Int32))] [(.int (13 : Int32))])) _
    refine XS.bipush X0.here hx rfl (hb hby d1_114) ?_
    show Steps p.tables e below (s₁.setTop (mkF m 116 #[.val (.int (13 : Int32))] [(.int (12 : Int32)), (.int (13 : Int32))])) _
    refine XS.icmpYes X0.here hx rfl (pc0 := 116) (pc' := 123) rfl (hb hby d1_116) rfl (feq (by decide : ¬ ((13 : Int32) = (12 : Int32)))).2 (by decide) (by decide) ?_
    show Steps p.tables e below (s₁.setTop (mkF m 123 #[.val (.int (13 : Int32))] [])) _
    refine XS.iloadN X0.here hx rfl (hb hby d1_123) rfl ?_
    show Steps p.tables e below (s₁.setTop (mkF m 124 #[.val (.int (13 : Int32))] [(.int (13 : Int32))])) _
    refine XS.bipush X0.here hx rfl (hb hby d1_124) ?_
    show Steps p.tables e below (s₁.setTop (mkF m 126 #[.val (.int (13 : Int32))] [(.int (13 : Int32)), (.int (13 : Int32))])) _
    refine XS.icmpNo X0.here hx rfl (hb hby d1_126) rfl (teq (by decide : (13 : Int32) = (13 : Int32))).2 ?_
    show Steps p.tables e below (s₁.setTop (mkF m 129 #[.val (.int (13 : Int32))] [])) _
    exact kt
  obtain ⟨T2, X2, e2, st2⟩ := getS2 X0 hx hZ hown (host := "") (Or.inl (hw _ (own_w 42 rfl))) Via.refl e0 (SAPI_VERSIONS.ext O0.2) (g := (mkF m 129 #[.val (.int (13 : Int32))] [])) rfl (hb hby d1_129)
  have pre3 : own_Go p e below S0 (T2.setTop (mkF m 132 #[.val (.int (13 : Int32))] [(.ref wAPI_VERSIONS)])) := by
    intro t kt
    refine pre1 t ?_
    refine st2 _ ?_
    show Steps p.tables e below (T2.setTop (mkF m 132 #[.val (.int (13 : Int32))] [(.ref wAPI_VERSIONS)])) _
    exact kt
  obtain ⟨fs, hr, hrun, hended, hW, hsame⟩ := X2.leave (v := some (.ref wAPI_VERSIONS)) (fun h => by rw [Bd.returns] at h; cases h)
  refine ⟨_, _, fin _ (pre3 _ ?_), hrun, hended, _, _, rfl, ?_, ⟨_, rfl⟩, hW, hsame.mono (by decide) (by decide)⟩
  · jvm_step X2.here [X2.here.top, hx, (hb hby d1_132), X2.method', Bd.returns, Value.isRef, FieldType.isReference]
    first | (intro acts; rw [hr _ acts rfl rfl rfl]) | rw [hr _ _ rfl rfl rfl]
    exact Steps.refl _
  · show Q1n13 Z wAPI_VERSIONS h0 n0 _ T2.heap _
    rw [e2]
    exact ⟨rfl, N0, rfl⟩

theorem d1_133 : decode method_2_code 133 = .ok (.iload_n 0, 1) := by decide +kernel
theorem d1_134 : decode method_2_code 134 = .ok (.bipush 14, 2) := by decide +kernel
theorem d1_136 : decode method_2_code 136 = .ok (.if_icmp .ne 7, 3) := by decide +kernel
theorem d1_139 : decode method_2_code 139 = .ok (.getstatic 52, 3) := by decide +kernel
theorem d1_142 : decode method_2_code 142 = .ok (.areturn, 1) := by decide +kernel
theorem ef_1n14 (m : MethodId)  : entryFrame m #[(.int (14 : Int32))] 1 = mkF m 0 #[.val (.int (14 : Int32))] [] := by first | (simp [entryFrame, mkF, argsToLocals, Value.category]; done) | rfl
def Q1n14 (Z : State) (wCREATE_TOPICS : Addr) (h0 : Heap) (n0 : Nat) (v : Option Value) (h : Heap) (L : List Loc) : Prop := v = (some (.ref wCREATE_TOPICS)) ∧ Fr n0 L ∧ h = h0
set_option maxRecDepth 65536 in
set_option maxHeartbeats 40000000 in
theorem rm1n14 (l : Launch) (Z : State) (a0 : Array Value) (hw : ∀ d ∈ tables_1, d.before a0 Z = true) (ws : List Jvm.Cond) (wCREATE_TOPICS : Addr) (h0 : Heap) (n0 : Nat) (Z0 : n0 ≤ h0.size) (O0 : Old Z n0 h0) (SCREATE_TOPICS : Sta Z Z.heap "com/example/eurybates/eurybates/protocol/ApiKey" "CREATE_TOPICS" "Lcom/example/eurybates/eurybates/protocol/ApiKey;" (.ref wCREATE_TOPICS)) :
    MetFree l (⟨"com/example/eurybates/eurybates/protocol/ApiKeyImplementsVersionPinLaw", "pick", "(I)Lcom/example/eurybates/eurybates/protocol/ApiKey;"⟩ : MethodName) (head1 (Jvm.Cond.code (⟨"com/example/eurybates/eurybates/protocol/ApiKeyImplementsVersionPinLaw", "pick", "(I)Lcom/example/eurybates/eurybates/protocol/ApiKey;"⟩ : MethodName) method_2_code 1 (some (.object "com/example/eurybates/eurybates/protocol/ApiKey")) :: ws) ({ frames := 0, cells := 0, slots := 0, locals := 0 } : Room)) (fun a U => a = #[(.int (14 : Int32))] ∧ Z.Warmed39 U.vm ∧ U.heap = h0) (fun _ _ _ _ _ => True) (fun _ U o U' => ∃ v L, o = .returned v ∧ Q1n14 Z wCREATE_TOPICS h0 n0 v U'.heap L ∧ FrameEnd U o U' L ({ frames := 0, cells := 0, slots := 0, locals := 0 } : Room).cells ({ frames := 0, cells := 0, slots := 0, locals := 0 } : Room).slots) := by
  refine MetFree.of_bodySF (plainFor_of_name pn_1) hisR ?_
  intro p e s m args below meth c s₁ Bd hml0 hP hK
  obtain ⟨rfl, hZ, hh⟩ := hP
  have hx := Bd.exec
  have hby := Bd.bytes
  have hml : c.maxLocals = 1 := hml0
  have hown0 := findClass_of_methodNamed Bd.named
  have hown : s.vm.findClass "com/example/eurybates/eurybates/protocol/ApiKeyImplementsVersionPinLaw" = some m.cls := hown0
  have hnm := (name_of_methodNamed Bd.named Bd.method).1
  have X0 : Stand p l e ({ frames := 0, cells := 0, slots := 0, locals := 0 } : Room) s m #[(.int (14 : Int32))] below meth c s₁ [] 0 0 := Stand.of_body Bd
  have e0 : s₁.heap = h0 := by rw [← hh, Bd.state]; rfl
  have N0 := Fr.nil n0
  obtain ⟨S0, hS0⟩ : ∃ z, z = s₁.setTop (entryFrame m #[(.int (14 : Int32))] 1) := ⟨_, rfl⟩
  have pre0 : own_Go p e below S0 (s₁.setTop (mkF m 0 #[.val (.int (14 : Int32))] [])) := fun t k => by rw [hS0]; exact castTop (ef_1n14 m ) k
  have fin : ∀ t, Steps p.tables e below S0 t → Steps p.tables e below (s₁.setTop (entryFrame m #[(.int (14 : Int32))] 1)) t := fun t k => by rw [hS0] at k; exact k
  have pre1 : own_Go p e below S0 (s₁.setTop (mkF m 139 #[.val (.int (14 : Int32))] [])) := by
    intro t kt
    refine pre0 t ?_
    refine XS.iloadN X0.here hx rfl (hb hby d1_0) rfl ?_
    show Steps p.tables e below (s₁.setTop (mkF m 1 #[.val (.int (14 : Int32))] [(.int (14 : Int32))])) _
    refine XS.ifYes X0.here hx rfl (pc0 := 1) (pc' := 8) rfl (hb hby d1_1) rfl ((if0 _ _).trans (feq (by decide : ¬ ((14 : Int32) = (0 : Int32)))).2) (by decide) (by decide) ?_
    show Steps p.tables e below (s₁.setTop (mkF m 8 #[.val (.int (14 : Int32))] [])) _
    refine XS.iloadN X0.here hx rfl (hb hby d1_8) rfl ?_
    show Steps p.tables e below (s₁.setTop (mkF m 9 #[.val (.int (14 : Int32))] [(.int (14 : Int32))])) _
    refine XS.iconst X0.here hx rfl (hb hby d1_9) ?_
    show Steps p.tables e below (s₁.setTop (mkF m 10 #[.val (.int (14 : Int32))] [(.int (1 : Int32)), (.int (14 : Int32))])) _
    refine XS.icmpYes X0.here hx rfl (pc0 := 10) (pc' := 17) rfl (hb hby d1_10) rfl (feq (by decide : ¬ ((14 : Int32) = (1 : Int32)))).2 (by decide) (by decide) ?_
    show Steps p.tables e below (s₁.setTop (mkF m 17 #[.val (.int (14 : Int32))] [])) _
    refine XS.iloadN X0.here hx rfl (hb hby d1_17) rfl ?_
    show Steps p.tables e below (s₁.setTop (mkF m 18 #[.val (.int (14 : Int32))] [(.int (14 : Int32))])) _
    refine XS.iconst X0.here hx rfl (hb hby d1_18) ?_
    show Steps p.tables e below (s₁.setTop (mkF m 19 #[.val (.int (14 : Int32))] [(.int (2 : Int32)), (.int (14 : Int32))])) _
    refine XS.icmpYes X0.here hx rfl (pc0 := 19) (pc' := 26) rfl (hb hby d1_19) rfl (feq (by decide : ¬ ((14 : Int32) = (2 : Int32)))).2 (by decide) (by decide) ?_
    show Steps p.tables e below (s₁.setTop (mkF m 26 #[.val (.int (14 : Int32))] [])) _
    refine XS.iloadN X0.here hx rfl (hb hby d1_26) rfl ?_
    show Steps p.tables e below (s₁.setTop (mkF m 27 #[.val (.int (14 : Int32))] [(.int (14 : Int32))])) _
    refine XS.iconst X0.here hx rfl (hb hby d1_27) ?_
    show Steps p.tables e below (s₁.setTop (mkF m 28 #[.val (.int (14 : Int32))] [(.int (3 : Int32)), (.int (14 : Int32))])) _
    refine XS.icmpYes X0.here hx rfl (pc0 := 28) (pc' := 35) rfl (hb hby d1_28) rfl (feq (by decide : ¬ ((14 : Int32) = (3 : Int32)))).2 (by decide) (by decide) ?_
    show Steps p.tables e below (s₁.setTop (mkF m 35 #[.val (.int (14 : Int32))] [])) _
    refine XS.iloadN X0.here hx rfl (hb hby d1_35) rfl ?_
    show Steps p.tables e below (s₁.setTop (mkF m 36 #[.val (.int (14 : Int32))] [(.int (14 : Int32))])) _
    refine XS.iconst X0.here hx rfl (hb hby d1_36) ?_
    show Steps p.tables e below (s₁.setTop (mkF m 37 #[.val (.int (14 : Int32))] [(.int (4 : Int32)), (.int (14 : Int32))])) _
    refine XS.icmpYes X0.here hx rfl (pc0 := 37) (pc' := 44) rfl (hb hby d1_37) rfl (feq (by decide : ¬ ((14 : Int32) = (4 : Int32)))).2 (by decide) (by decide) ?_
    show Steps p.tables e below (s₁.setTop (mkF m 44 #[.val (.int (14 : Int32))] [])) _
    refine XS.iloadN X0.here hx rfl (hb hby d1_44) rfl ?_
    show Steps p.tables e below (s₁.setTop (mkF m 45 #[.val (.int (14 : Int32))] [(.int (14 : Int32))])) _
    refine XS.iconst X0.here hx rfl (hb hby d1_45) ?_
    show Steps p.tables e below (s₁.setTop (mkF m 46 #[.val (.int (14 : Int32))] [(.int (5 : Int32)), (.int (14 : Int32))])) _
    refine XS.icmpYes X0.here hx rfl (pc0 := 46) (pc' := 53) rfl (hb hby d1_46) rfl (feq (by decide : ¬ ((14 : Int32) = (5 : Int32)))).2 (by decide) (by decide) ?_
    show Steps p.tables e below (s₁.setTop (mkF m 53 #[.val (.int (14 : Int32))] [])) _
    refine XS.iloadN X0.here hx rfl (hb hby d1_53) rfl ?_
    show Steps p.tables e below (s₁.setTop (mkF m 54 #[.val (.int (14 : Int32))] [(.int (14 : Int32))])) _
    refine XS.bipush X0.here hx rfl (hb hby d1_54) ?_
    show Steps p.tables e below (s₁.setTop (mkF m 56 #[.val (.int (14 : Int32))] [(.int (6 : Int32)), (.int (14 : Int32))])) _
    refine XS.icmpYes X0.here hx rfl (pc0 := 56) (pc' := 63) rfl (hb hby d1_56) rfl (feq (by decide : ¬ ((14 : Int32) = (6 : Int32)))).2 (by decide) (by decide) ?_
    show Steps p.tables e below (s₁.setTop (mkF m 63 #[.val (.int (14 : Int32))] [])) _
    refine XS.iloadN X0.here hx rfl (hb hby d1_63) rfl ?_
    show Steps p.tables e below (s₁.setTop (mkF m 64 #[.val (.int (14 : Int32))] [(.int (14 : Int32))])) _
    refine XS.bipush X0.here hx rfl (hb hby d1_64) ?_
    show Steps p.tables e below (s₁.setTop (mkF m 66 #[.val (.int (14 : Int32))] [(.int (7 : Int32)), (.int (14 : Int32))])) _
    refine XS.icmpYes X0.here hx rfl (pc0 := 66) (pc' := 73) rfl (hb hby d1_66) rfl (feq (by decide : ¬ ((14 : Int32) = (7 : Int32)))).2 (by decide) (by decide) ?_
    show Steps p.tables e below (s₁.setTop (mkF m 73 #[.val (.int (14 : Int32))] [])) _
    refine XS.iloadN X0.here hx rfl (hb hby d1_73) rfl ?_
    show Steps p.tables e below (s₁.setTop (mkF m 74 #[.val (.int (14 : Int32))] [(.int (14 : Int32))])) _
    refine XS.bipush X0.here hx rfl (hb hby d1_74) ?_
    show Steps p.tables e below (s₁.setTop (mkF m 76 #[.val (.int (14 : Int32))] [(.int (8 : Int32)), (.int (14 : Int32))])) _
    refine XS.icmpYes X0.here hx rfl (pc0 := 76) (pc' := 83) rfl (hb hby d1_76) rfl (feq (by decide : ¬ ((14 : Int32) = (8 : Int32)))).2 (by decide) (by decide) ?_
    show Steps p.tables e below (s₁.setTop (mkF m 83 #[.val (.int (14 : Int32))] [])) _
    refine XS.iloadN X0.here hx rfl (hb hby d1_83) rfl ?_
    show Steps p.tables e below (s₁.setTop (mkF m 84 #[.val (.int (14 : Int32))] [(.int (14 : Int32))])) _
    refine XS.bipush X0.here hx rfl (hb hby d1_84) ?_
    show Steps p.tables e below (s₁.setTop (mkF m 86 #[.val (.int (14 : Int32))] [(.int (9 : Int32)), (.int (14 : Int32))])) _
    refine XS.icmpYes X0.here hx rfl (pc0 := 86) (pc' := 93) rfl (hb hby d1_86) rfl (feq (by decide : ¬ ((14 : Int32) = (9 : Int32)))).2 (by decide) (by decide) ?_
    show Steps p.tables e below (s₁.setTop (mkF m 93 #[.val (.int (14 : Int32))] [])) _
    refine XS.iloadN X0.here hx rfl (hb hby d1_93) rfl ?_
    show Steps p.tables e below (s₁.setTop (mkF m 94 #[.val (.int (14 : Int32))] [(.int (14 : Int32))])) _
    refine XS.bipush X0.here hx rfl (hb hby d1_94) ?_
    show Steps p.tables e below (s₁.setTop (mkF m 96 #[.val (.int (14 : Int32))] [(.int (10 : Int32)), (.int (14 : Int32))])) _
    refine XS.icmpYes X0.here hx rfl (pc0 := 96) (pc' := 103) rfl (hb hby d1_96) rfl (feq (by decide : ¬ ((14 : Int32) = (10 : Int32)))).2 (by decide) (by decide) ?_
    show Steps p.tables e below (s₁.setTop (mkF m 103 #[.val (.int (14 : Int32))] [])) _
    refine XS.iloadN X0.here hx rfl (hb hby d1_103) rfl ?_
    show Steps p.tables e below (s₁.setTop (mkF m 104 #[.val (.int (14 : Int32))] [(.int (14 : Int32))])) _
    refine XS.bipush X0.here hx rfl (hb hby d1_104) ?_
    show Steps p.tables e below (s₁.setTop (mkF m 106 #[.val (.int (14 : Int32))] [(.int (11 : Int32)), (.int (14 : Int32))])) _
    refine XS.icmpYes X0.here hx rfl (pc0 := 106) (pc' := 113) rfl (hb hby d1_106) rfl (feq (by decide : ¬ ((14 : Int32) = (11 : Int32)))).2 (by decide) (by decide) ?_
    show Steps p.tables e below (s₁.setTop (mkF m 113 #[.val (.int (14 : Int32))] [])) _
    refine XS.iloadN X0.here hx rfl (hb hby d1_113) rfl ?_
    show Steps p.tables e below (s₁.setTop (mkF m 114 #[.val (.int (14 : Int32))] [(.int (14 : Int32))])) _
    refine XS.bipush X0.here hx rfl (hb hby d1_114) ?_
    show Steps p.tables e below (s₁.setTop (mkF m 116 #[.val (.int (14 : Int32))] [(.int (12 : Int32)), (.int (14 : Int32))])) _
    refine XS.icmpYes X0.here hx rfl (pc0 := 116) (pc' := 123) rfl (hb hby d1_116) rfl (feq (by decide : ¬ ((14 : Int32) = (12 : Int32)))).2 (by decide) (by decide) ?_
    show Steps p.tables e below (s₁.setTop (mkF m 123 #[.val (.int (14 : Int32))] [])) _
    refine XS.iloadN X0.here hx rfl (hb hby d1_123) rfl ?_
    show Steps p.tables e below (s₁.setTop (mkF m 124 #[.val (.int (14 : Int32))] [(.int (14 : Int32))])) _
    refine XS.bipush X0.here hx rfl (hb hby d1_124) ?_
    show Steps p.tables e below (s₁.setTop (mkF m 126 #[.val (.int (14 : Int32))] [(.int (13 : Int32)), (.int (14 : Int32))])) _
    refine XS.icmpYes X0.here hx rfl (pc0 := 126) (pc' := 133) rfl (hb hby d1_126) rfl (feq (by decide : ¬ ((14 : Int32) = (13 : Int32)))).2 (by decide) (by decide) ?_
    show Steps p.tables e below (s₁.setTop (mkF m 133 #[.val (.int (14 : Int32))] [])) _
    refine XS.iloadN X0.here hx rfl (hb hby d1_133) rfl ?_
    show Steps p.tables e below (s₁.setTop (mkF m 134 #[.val (.int (14 : Int32))] [(.int (14 : Int32))])) _
    refine XS.bipush X0.here hx rfl (hb hby d1_134) ?_
    show Steps p.tables e below (s₁.setTop (mkF m 136 #[.val (.int (14 : Int32))] [(.int (14 : Int32)), (.int (14 : Int32))])) _
    refine XS.icmpNo X0.here hx rfl (hb hby d1_136) rfl (teq (by decide : (14 : Int32) = (14 : Int32))).2 ?_
    show Steps p.tables e below (s₁.setTop (mkF m 139 #[.val (.int (14 : Int32))] [])) _
    exact kt
  obtain ⟨T2, X2, e2, st2⟩ := getS2 X0 hx hZ hown (host := "") (Or.inl (hw _ (own_w 18 rfl))) Via.refl e0 (SCREATE_TOPICS.ext O0.2) (g := (mkF m 139 #[.val (.int (14 : Int32))] [])) rfl (hb hby d1_139)
  have pre3 : own_Go p e below S0 (T2.setTop (mkF m 142 #[.val (.int (14 : Int32))] [(.ref wCREATE_TOPICS)])) := by
    intro t kt
    refine pre1 t ?_
    refine st2 _ ?_
    show Steps p.tables e below (T2.setTop (mkF m 142 #[.val (.int (14 : Int32))] [(.ref wCREATE_TOPICS)])) _
    exact kt
  obtain ⟨fs, hr, hrun, hended, hW, hsame⟩ := X2.leave (v := some (.ref wCREATE_TOPICS)) (fun h => by rw [Bd.returns] at h; cases h)
  refine ⟨_, _, fin _ (pre3 _ ?_), hrun, hended, _, _, rfl, ?_, ⟨_, rfl⟩, hW, hsame.mono (by decide) (by decide)⟩
  · jvm_step X2.here [X2.here.top, hx, (hb hby d1_142), X2.method', Bd.returns, Value.isRef, FieldType.isReference]
    first | (intro acts; rw [hr _ acts rfl rfl rfl]) | rw [hr _ _ rfl rfl rfl]
    exact Steps.refl _
  · show Q1n14 Z wCREATE_TOPICS h0 n0 _ T2.heap _
    rw [e2]
    exact ⟨rfl, N0, rfl⟩

theorem d1_143 : decode method_2_code 143 = .ok (.iload_n 0, 1) := by decide +kernel
theorem d1_144 : decode method_2_code 144 = .ok (.bipush 15, 2) := by decide +kernel
theorem d1_146 : decode method_2_code 146 = .ok (.if_icmp .ne 7, 3) := by decide +kernel
theorem d1_149 : decode method_2_code 149 = .ok (.getstatic 55, 3) := by decide +kernel
theorem d1_152 : decode method_2_code 152 = .ok (.areturn, 1) := by decide +kernel
theorem ef_1n15 (m : MethodId)  : entryFrame m #[(.int (15 : Int32))] 1 = mkF m 0 #[.val (.int (15 : Int32))] [] := by first | (simp [entryFrame, mkF, argsToLocals, Value.category]; done) | rfl
def Q1n15 (Z : State) (wDELETE_TOPICS : Addr) (h0 : Heap) (n0 : Nat) (v : Option Value) (h : Heap) (L : List Loc) : Prop := v = (some (.ref wDELETE_TOPICS)) ∧ Fr n0 L ∧ h = h0
set_option maxRecDepth 65536 in
set_option maxHeartbeats 40000000 in
theorem rm1n15 (l : Launch) (Z : State) (a0 : Array Value) (hw : ∀ d ∈ tables_1, d.before a0 Z = true) (ws : List Jvm.Cond) (wDELETE_TOPICS : Addr) (h0 : Heap) (n0 : Nat) (Z0 : n0 ≤ h0.size) (O0 : Old Z n0 h0) (SDELETE_TOPICS : Sta Z Z.heap "com/example/eurybates/eurybates/protocol/ApiKey" "DELETE_TOPICS" "Lcom/example/eurybates/eurybates/protocol/ApiKey;" (.ref wDELETE_TOPICS)) :
    MetFree l (⟨"com/example/eurybates/eurybates/protocol/ApiKeyImplementsVersionPinLaw", "pick", "(I)Lcom/example/eurybates/eurybates/protocol/ApiKey;"⟩ : MethodName) (head1 (Jvm.Cond.code (⟨"com/example/eurybates/eurybates/protocol/ApiKeyImplementsVersionPinLaw", "pick", "(I)Lcom/example/eurybates/eurybates/protocol/ApiKey;"⟩ : MethodName) method_2_code 1 (some (.object "com/example/eurybates/eurybates/protocol/ApiKey")) :: ws) ({ frames := 0, cells := 0, slots := 0, locals := 0 } : Room)) (fun a U => a = #[(.int (15 : Int32))] ∧ Z.Warmed39 U.vm ∧ U.heap = h0) (fun _ _ _ _ _ => True) (fun _ U o U' => ∃ v L, o = .returned v ∧ Q1n15 Z wDELETE_TOPICS h0 n0 v U'.heap L ∧ FrameEnd U o U' L ({ frames := 0, cells := 0, slots := 0, locals := 0 } : Room).cells ({ frames := 0, cells := 0, slots := 0, locals := 0 } : Room).slots) := by
  refine MetFree.of_bodySF (plainFor_of_name pn_1) hisR ?_
  intro p e s m args below meth c s₁ Bd hml0 hP hK
  obtain ⟨rfl, hZ, hh⟩ := hP
  have hx := Bd.exec
  have hby := Bd.bytes
  have hml : c.maxLocals = 1 := hml0
  have hown0 := findClass_of_methodNamed Bd.named
  have hown : s.vm.findClass "com/example/eurybates/eurybates/protocol/ApiKeyImplementsVersionPinLaw" = some m.cls := hown0
  have hnm := (name_of_methodNamed Bd.named Bd.method).1
  have X0 : Stand p l e ({ frames := 0, cells := 0, slots := 0, locals := 0 } : Room) s m #[(.int (15 : Int32))] below meth c s₁ [] 0 0 := Stand.of_body Bd
  have e0 : s₁.heap = h0 := by rw [← hh, Bd.state]; rfl
  have N0 := Fr.nil n0
  obtain ⟨S0, hS0⟩ : ∃ z, z = s₁.setTop (entryFrame m #[(.int (15 : Int32))] 1) := ⟨_, rfl⟩
  have pre0 : own_Go p e below S0 (s₁.setTop (mkF m 0 #[.val (.int (15 : Int32))] [])) := fun t k => by rw [hS0]; exact castTop (ef_1n15 m ) k
  have fin : ∀ t, Steps p.tables e below S0 t → Steps p.tables e below (s₁.setTop (entryFrame m #[(.int (15 : Int32))] 1)) t := fun t k => by rw [hS0] at k; exact k
  have pre1 : own_Go p e below S0 (s₁.setTop (mkF m 149 #[.val (.int (15 : Int32))] [])) := by
    intro t kt
    refine pre0 t ?_
    refine XS.iloadN X0.here hx rfl (hb hby d1_0) rfl ?_
    show Steps p.tables e below (s₁.setTop (mkF m 1 #[.val (.int (15 : Int32))] [(.int (15 : Int32))])) _
    refine XS.ifYes X0.here hx rfl (pc0 := 1) (pc' := 8) rfl (hb hby d1_1) rfl ((if0 _ _).trans (feq (by decide : ¬ ((15 : Int32) = (0 : Int32)))).2) (by decide) (by decide) ?_
    show Steps p.tables e below (s₁.setTop (mkF m 8 #[.val (.int (15 : Int32))] [])) _
    refine XS.iloadN X0.here hx rfl (hb hby d1_8) rfl ?_
    show Steps p.tables e below (s₁.setTop (mkF m 9 #[.val (.int (15 : Int32))] [(.int (15 : Int32))])) _
    refine XS.iconst X0.here hx rfl (hb hby d1_9) ?_
    show Steps p.tables e below (s₁.setTop (mkF m 10 #[.val (.int (15 : Int32))] [(.int (1 : Int32)), (.int (15 : Int32))])) _
    refine XS.icmpYes X0.here hx rfl (pc0 := 10) (pc' := 17) rfl (hb hby d1_10) rfl (feq (by decide : ¬ ((15 : Int32) = (1 : Int32)))).2 (by decide) (by decide) ?_
    show Steps p.tables e below (s₁.setTop (mkF m 17 #[.val (.int (15 : Int32))] [])) _
    refine XS.iloadN X0.here hx rfl (hb hby d1_17) rfl ?_
    show Steps p.tables e below (s₁.setTop (mkF m 18 #[.val (.int (15 : Int32))] [(.int (15 : Int32))])) _
    refine XS.iconst X0.here hx rfl (hb hby d1_18) ?_
    show Steps p.tables e below (s₁.setTop (mkF m 19 #[.val (.int (15 : Int32))] [(.int (2 : Int32)), (.int (15 : Int32))])) _
    refine XS.icmpYes X0.here hx rfl (pc0 := 19) (pc' := 26) rfl (hb hby d1_19) rfl (feq (by decide : ¬ ((15 : Int32) = (2 : Int32)))).2 (by decide) (by decide) ?_
    show Steps p.tables e below (s₁.setTop (mkF m 26 #[.val (.int (15 : Int32))] [])) _
    refine XS.iloadN X0.here hx rfl (hb hby d1_26) rfl ?_
    show Steps p.tables e below (s₁.setTop (mkF m 27 #[.val (.int (15 : Int32))] [(.int (15 : Int32))])) _
    refine XS.iconst X0.here hx rfl (hb hby d1_27) ?_
    show Steps p.tables e below (s₁.setTop (mkF m 28 #[.val (.int (15 : Int32))] [(.int (3 : Int32)), (.int (15 : Int32))])) _
    refine XS.icmpYes X0.here hx rfl (pc0 := 28) (pc' := 35) rfl (hb hby d1_28) rfl (feq (by decide : ¬ ((15 : Int32) = (3 : Int32)))).2 (by decide) (by decide) ?_
    show Steps p.tables e below (s₁.setTop (mkF m 35 #[.val (.int (15 : Int32))] [])) _
    refine XS.iloadN X0.here hx rfl (hb hby d1_35) rfl ?_
    show Steps p.tables e below (s₁.setTop (mkF m 36 #[.val (.int (15 : Int32))] [(.int (15 : Int32))])) _
    refine XS.iconst X0.here hx rfl (hb hby d1_36) ?_
    show Steps p.tables e below (s₁.setTop (mkF m 37 #[.val (.int (15 : Int32))] [(.int (4 : Int32)), (.int (15 : Int32))])) _
    refine XS.icmpYes X0.here hx rfl (pc0 := 37) (pc' := 44) rfl (hb hby d1_37) rfl (feq (by decide : ¬ ((15 : Int32) = (4 : Int32)))).2 (by decide) (by decide) ?_
    show Steps p.tables e below (s₁.setTop (mkF m 44 #[.val (.int (15 : Int32))] [])) _
    refine XS.iloadN X0.here hx rfl (hb hby d1_44) rfl ?_
    show Steps p.tables e below (s₁.setTop (mkF m 45 #[.val (.int (15 : Int32))] [(.int (15 : Int32))])) _
    refine XS.iconst X0.here hx rfl (hb hby d1_45) ?_
    show Steps p.tables e below (s₁.setTop (mkF m 46 #[.val (.int (15 : Int32))] [(.int (5 : Int32)), (.int (15 : Int32))])) _
    refine XS.icmpYes X0.here hx rfl (pc0 := 46) (pc' := 53) rfl (hb hby d1_46) rfl (feq (by decide : ¬ ((15 : Int32) = (5 : Int32)))).2 (by decide) (by decide) ?_
    show Steps p.tables e below (s₁.setTop (mkF m 53 #[.val (.int (15 : Int32))] [])) _
    refine XS.iloadN X0.here hx rfl (hb hby d1_53) rfl ?_
    show Steps p.tables e below (s₁.setTop (mkF m 54 #[.val (.int (15 : Int32))] [(.int (15 : Int32))])) _
    refine XS.bipush X0.here hx rfl (hb hby d1_54) ?_
    show Steps p.tables e below (s₁.setTop (mkF m 56 #[.val (.int (15 : Int32))] [(.int (6 : Int32)), (.int (15 : Int32))])) _
    refine XS.icmpYes X0.here hx rfl (pc0 := 56) (pc' := 63) rfl (hb hby d1_56) rfl (feq (by decide : ¬ ((15 : Int32) = (6 : Int32)))).2 (by decide) (by decide) ?_
    show Steps p.tables e below (s₁.setTop (mkF m 63 #[.val (.int (15 : Int32))] [])) _
    refine XS.iloadN X0.here hx rfl (hb hby d1_63) rfl ?_
    show Steps p.tables e below (s₁.setTop (mkF m 64 #[.val (.int (15 : Int32))] [(.int (15 : Int32))])) _
    refine XS.bipush X0.here hx rfl (hb hby d1_64) ?_
    show Steps p.tables e below (s₁.setTop (mkF m 66 #[.val (.int (15 : Int32))] [(.int (7 : Int32)), (.int (15 : Int32))])) _
    refine XS.icmpYes X0.here hx rfl (pc0 := 66) (pc' := 73) rfl (hb hby d1_66) rfl (feq (by decide : ¬ ((15 : Int32) = (7 : Int32)))).2 (by decide) (by decide) ?_
    show Steps p.tables e below (s₁.setTop (mkF m 73 #[.val (.int (15 : Int32))] [])) _
    refine XS.iloadN X0.here hx rfl (hb hby d1_73) rfl ?_
    show Steps p.tables e below (s₁.setTop (mkF m 74 #[.val (.int (15 : Int32))] [(.int (15 : Int32))])) _
    refine XS.bipush X0.here hx rfl (hb hby d1_74) ?_
    show Steps p.tables e below (s₁.setTop (mkF m 76 #[.val (.int (15 : Int32))] [(.int (8 : Int32)), (.int (15 : Int32))])) _
    refine XS.icmpYes X0.here hx rfl (pc0 := 76) (pc' := 83) rfl (hb hby d1_76) rfl (feq (by decide : ¬ ((15 : Int32) = (8 : Int32)))).2 (by decide) (by decide) ?_
    show Steps p.tables e below (s₁.setTop (mkF m 83 #[.val (.int (15 : Int32))] [])) _
    refine XS.iloadN X0.here hx rfl (hb hby d1_83) rfl ?_
    show Steps p.tables e below (s₁.setTop (mkF m 84 #[.val (.int (15 : Int32))] [(.int (15 : Int32))])) _
    refine XS.bipush X0.here hx rfl (hb hby d1_84) ?_
    show Steps p.tables e below (s₁.setTop (mkF m 86 #[.val (.int (15 : Int32))] [(.int (9 : Int32)), (.int (15 : Int32))])) _
    refine XS.icmpYes X0.here hx rfl (pc0 := 86) (pc' := 93) rfl (hb hby d1_86) rfl (feq (by decide : ¬ ((15 : Int32) = (9 : Int32)))).2 (by decide) (by decide) ?_
    show Steps p.tables e below (s₁.setTop (mkF m 93 #[.val (.int (15 : Int32))] [])) _
    refine XS.iloadN X0.here hx rfl (hb hby d1_93) rfl ?_
    show Steps p.tables e below (s₁.setTop (mkF m 94 #[.val (.int (15 : Int32))] [(.int (15 : Int32))])) _
    refine XS.bipush X0.here hx rfl (hb hby d1_94) ?_
    show Steps p.tables e below (s₁.setTop (mkF m 96 #[.val (.int (15 : Int32))] [(.int (10 : Int32)), (.int (15 : Int32))])) _
    refine XS.icmpYes X0.here hx rfl (pc0 := 96) (pc' := 103) rfl (hb hby d1_96) rfl (feq (by decide : ¬ ((15 : Int32) = (10 : Int32)))).2 (by decide) (by decide) ?_
    show Steps p.tables e below (s₁.setTop (mkF m 103 #[.val (.int (15 : Int32))] [])) _
    refine XS.iloadN X0.here hx rfl (hb hby d1_103) rfl ?_
    show Steps p.tables e below (s₁.setTop (mkF m 104 #[.val (.int (15 : Int32))] [(.int (15 : Int32))])) _
    refine XS.bipush X0.here hx rfl (hb hby d1_104) ?_
    show Steps p.tables e below (s₁.setTop (mkF m 106 #[.val (.int (15 : Int32))] [(.int (11 : Int32)), (.int (15 : Int32))])) _
    refine XS.icmpYes X0.here hx rfl (pc0 := 106) (pc' := 113) rfl (hb hby d1_106) rfl (feq (by decide : ¬ ((15 : Int32) = (11 : Int32)))).2 (by decide) (by decide) ?_
    show Steps p.tables e below (s₁.setTop (mkF m 113 #[.val (.int (15 : Int32))] [])) _
    refine XS.iloadN X0.here hx rfl (hb hby d1_113) rfl ?_
    show Steps p.tables e below (s₁.setTop (mkF m 114 #[.val (.int (15 : Int32))] [(.int (15 : Int32))])) _
    refine XS.bipush X0.here hx rfl (hb hby d1_114) ?_
    show Steps p.tables e below (s₁.setTop (mkF m 116 #[.val (.int (15 : Int32))] [(.int (12 : Int32)), (.int (15 : Int32))])) _
    refine XS.icmpYes X0.here hx rfl (pc0 := 116) (pc' := 123) rfl (hb hby d1_116) rfl (feq (by decide : ¬ ((15 : Int32) = (12 : Int32)))).2 (by decide) (by decide) ?_
    show Steps p.tables e below (s₁.setTop (mkF m 123 #[.val (.int (15 : Int32))] [])) _
    refine XS.iloadN X0.here hx rfl (hb hby d1_123) rfl ?_
    show Steps p.tables e below (s₁.setTop (mkF m 124 #[.val (.int (15 : Int32))] [(.int (15 : Int32))])) _
    refine XS.bipush X0.here hx rfl (hb hby d1_124) ?_
    show Steps p.tables e below (s₁.setTop (mkF m 126 #[.val (.int (15 : Int32))] [(.int (13 : Int32)), (.int (15 : Int32))])) _
    refine XS.icmpYes X0.here hx rfl (pc0 := 126) (pc' := 133) rfl (hb hby d1_126) rfl (feq (by decide : ¬ ((15 : Int32) = (13 : Int32)))).2 (by decide) (by decide) ?_
    show Steps p.tables e below (s₁.setTop (mkF m 133 #[.val (.int (15 : Int32))] [])) _
    refine XS.iloadN X0.here hx rfl (hb hby d1_133) rfl ?_
    show Steps p.tables e below (s₁.setTop (mkF m 134 #[.val (.int (15 : Int32))] [(.int (15 : Int32))])) _
    refine XS.bipush X0.here hx rfl (hb hby d1_134) ?_
    show Steps p.tables e below (s₁.setTop (mkF m 136 #[.val (.int (15 : Int32))] [(.int (14 : Int32)), (.int (15 : Int32))])) _
    refine XS.icmpYes X0.here hx rfl (pc0 := 136) (pc' := 143) rfl (hb hby d1_136) rfl (feq (by decide : ¬ ((15 : Int32) = (14 : Int32)))).2 (by decide) (by decide) ?_
    show Steps p.tables e below (s₁.setTop (mkF m 143 #[.val (.int (15 : Int32))] [])) _
    refine XS.iloadN X0.here hx rfl (hb hby d1_143) rfl ?_
    show Steps p.tables e below (s₁.setTop (mkF m 144 #[.val (.int (15 : Int32))] [(.int (15 : Int32))])) _
    refine XS.bipush X0.here hx rfl (hb hby d1_144) ?_
    show Steps p.tables e below (s₁.setTop (mkF m 146 #[.val (.int (15 : Int32))] [(.int (15 : Int32)), (.int (15 : Int32))])) _
    refine XS.icmpNo X0.here hx rfl (hb hby d1_146) rfl (teq (by decide : (15 : Int32) = (15 : Int32))).2 ?_
    show Steps p.tables e below (s₁.setTop (mkF m 149 #[.val (.int (15 : Int32))] [])) _
    exact kt
  obtain ⟨T2, X2, e2, st2⟩ := getS2 X0 hx hZ hown (host := "") (Or.inl (hw _ (own_w 34 rfl))) Via.refl e0 (SDELETE_TOPICS.ext O0.2) (g := (mkF m 149 #[.val (.int (15 : Int32))] [])) rfl (hb hby d1_149)
  have pre3 : own_Go p e below S0 (T2.setTop (mkF m 152 #[.val (.int (15 : Int32))] [(.ref wDELETE_TOPICS)])) := by
    intro t kt
    refine pre1 t ?_
    refine st2 _ ?_
    show Steps p.tables e below (T2.setTop (mkF m 152 #[.val (.int (15 : Int32))] [(.ref wDELETE_TOPICS)])) _
    exact kt
  obtain ⟨fs, hr, hrun, hended, hW, hsame⟩ := X2.leave (v := some (.ref wDELETE_TOPICS)) (fun h => by rw [Bd.returns] at h; cases h)
  refine ⟨_, _, fin _ (pre3 _ ?_), hrun, hended, _, _, rfl, ?_, ⟨_, rfl⟩, hW, hsame.mono (by decide) (by decide)⟩
  · jvm_step X2.here [X2.here.top, hx, (hb hby d1_152), X2.method', Bd.returns, Value.isRef, FieldType.isReference]
    first | (intro acts; rw [hr _ acts rfl rfl rfl]) | rw [hr _ _ rfl rfl rfl]
    exact Steps.refl _
  · show Q1n15 Z wDELETE_TOPICS h0 n0 _ T2.heap _
    rw [e2]
    exact ⟨rfl, N0, rfl⟩

theorem d1_153 : decode method_2_code 153 = .ok (.iload_n 0, 1) := by decide +kernel
theorem d1_154 : decode method_2_code 154 = .ok (.bipush 16, 2) := by decide +kernel
theorem d1_156 : decode method_2_code 156 = .ok (.if_icmp .ne 7, 3) := by decide +kernel
theorem d1_159 : decode method_2_code 159 = .ok (.getstatic 58, 3) := by decide +kernel
theorem d1_162 : decode method_2_code 162 = .ok (.areturn, 1) := by decide +kernel
theorem ef_1n16 (m : MethodId)  : entryFrame m #[(.int (16 : Int32))] 1 = mkF m 0 #[.val (.int (16 : Int32))] [] := by first | (simp [entryFrame, mkF, argsToLocals, Value.category]; done) | rfl
def Q1n16 (Z : State) (wINIT_PRODUCER_ID : Addr) (h0 : Heap) (n0 : Nat) (v : Option Value) (h : Heap) (L : List Loc) : Prop := v = (some (.ref wINIT_PRODUCER_ID)) ∧ Fr n0 L ∧ h = h0
set_option maxRecDepth 65536 in
set_option maxHeartbeats 40000000 in
theorem rm1n16 (l : Launch) (Z : State) (a0 : Array Value) (hw : ∀ d ∈ tables_1, d.before a0 Z = true) (ws : List Jvm.Cond) (wINIT_PRODUCER_ID : Addr) (h0 : Heap) (n0 : Nat) (Z0 : n0 ≤ h0.size) (O0 : Old Z n0 h0) (SINIT_PRODUCER_ID : Sta Z Z.heap "com/example/eurybates/eurybates/protocol/ApiKey" "INIT_PRODUCER_ID" "Lcom/example/eurybates/eurybates/protocol/ApiKey;" (.ref wINIT_PRODUCER_ID)) :
    MetFree l (⟨"com/example/eurybates/eurybates/protocol/ApiKeyImplementsVersionPinLaw", "pick", "(I)Lcom/example/eurybates/eurybates/protocol/ApiKey;"⟩ : MethodName) (head1 (Jvm.Cond.code (⟨"com/example/eurybates/eurybates/protocol/ApiKeyImplementsVersionPinLaw", "pick", "(I)Lcom/example/eurybates/eurybates/protocol/ApiKey;"⟩ : MethodName) method_2_code 1 (some (.object "com/example/eurybates/eurybates/protocol/ApiKey")) :: ws) ({ frames := 0, cells := 0, slots := 0, locals := 0 } : Room)) (fun a U => a = #[(.int (16 : Int32))] ∧ Z.Warmed39 U.vm ∧ U.heap = h0) (fun _ _ _ _ _ => True) (fun _ U o U' => ∃ v L, o = .returned v ∧ Q1n16 Z wINIT_PRODUCER_ID h0 n0 v U'.heap L ∧ FrameEnd U o U' L ({ frames := 0, cells := 0, slots := 0, locals := 0 } : Room).cells ({ frames := 0, cells := 0, slots := 0, locals := 0 } : Room).slots) := by
  refine MetFree.of_bodySF (plainFor_of_name pn_1) hisR ?_
  intro p e s m args below meth c s₁ Bd hml0 hP hK
  obtain ⟨rfl, hZ, hh⟩ := hP
  have hx := Bd.exec
  have hby := Bd.bytes
  have hml : c.maxLocals = 1 := hml0
  have hown0 := findClass_of_methodNamed Bd.named
  have hown : s.vm.findClass "com/example/eurybates/eurybates/protocol/ApiKeyImplementsVersionPinLaw" = some m.cls := hown0
  have hnm := (name_of_methodNamed Bd.named Bd.method).1
  have X0 : Stand p l e ({ frames := 0, cells := 0, slots := 0, locals := 0 } : Room) s m #[(.int (16 : Int32))] below meth c s₁ [] 0 0 := Stand.of_body Bd
  have e0 : s₁.heap = h0 := by rw [← hh, Bd.state]; rfl
  have N0 := Fr.nil n0
  obtain ⟨S0, hS0⟩ : ∃ z, z = s₁.setTop (entryFrame m #[(.int (16 : Int32))] 1) := ⟨_, rfl⟩
  have pre0 : own_Go p e below S0 (s₁.setTop (mkF m 0 #[.val (.int (16 : Int32))] [])) := fun t k => by rw [hS0]; exact castTop (ef_1n16 m ) k
  have fin : ∀ t, Steps p.tables e below S0 t → Steps p.tables e below (s₁.setTop (entryFrame m #[(.int (16 : Int32))] 1)) t := fun t k => by rw [hS0] at k; exact k
  have pre1 : own_Go p e below S0 (s₁.setTop (mkF m 159 #[.val (.int (16 : Int32))] [])) := by
    intro t kt
    refine pre0 t ?_
    refine XS.iloadN X0.here hx rfl (hb hby d1_0) rfl ?_
    show Steps p.tables e below (s₁.setTop (mkF m 1 #[.val (.int (16 : Int32))] [(.int (16 : Int32))])) _
    refine XS.ifYes X0.here hx rfl (pc0 := 1) (pc' := 8) rfl (hb hby d1_1) rfl ((if0 _ _).trans (feq (by decide : ¬ ((16 : Int32) = (0 : Int32)))).2) (by decide) (by decide) ?_
    show Steps p.tables e below (s₁.setTop (mkF m 8 #[.val (.int (16 : Int32))] [])) _
    refine XS.iloadN X0.here hx rfl (hb hby d1_8) rfl ?_
    show Steps p.tables e below (s₁.setTop (mkF m 9 #[.val (.int (16 : Int32))] [(.int (16 : Int32))])) _
    refine XS.iconst X0.here hx rfl (hb hby d1_9) ?_
    show Steps p.tables e below (s₁.setTop (mkF m 10 #[.val (.int (16 : Int32))] [(.int (1 : Int32)), (.int (16 : Int32))])) _
    refine XS.icmpYes X0.here hx rfl (pc0 := 10) (pc' := 17) rfl (hb hby d1_10) rfl (feq (by decide : ¬ ((16 : Int32) = (1 : Int32)))).2 (by decide) (by decide) ?_
    show Steps p.tables e below (s₁.setTop (mkF m 17 #[.val (.int (16 : Int32))] [])) _
    refine XS.iloadN X0.here hx rfl (hb hby d1_17) rfl ?_
    show Steps p.tables e below (s₁.setTop (mkF m 18 #[.val (.int (16 : Int32))] [(.int (16 : Int32))])) _
    refine XS.iconst X0.here hx rfl (hb hby d1_18) ?_
    show Steps p.tables e below (s₁.setTop (mkF m 19 #[.val (.int (16 : Int32))] [(.int (2 : Int32)), (.int (16 : Int32))])) _
    refine XS.icmpYes X0.here hx rfl (pc0 := 19) (pc' := 26) rfl (hb hby d1_19) rfl (feq (by decide : ¬ ((16 : Int32) = (2 : Int32)))).2 (by decide) (by decide) ?_
    show Steps p.tables e below (s₁.setTop (mkF m 26 #[.val (.int (16 : Int32))] [])) _
    refine XS.iloadN X0.here hx rfl (hb hby d1_26) rfl ?_
    show Steps p.tables e below (s₁.setTop (mkF m 27 #[.val (.int (16 : Int32))] [(.int (16 : Int32))])) _
    refine XS.iconst X0.here hx rfl (hb hby d1_27) ?_
    show Steps p.tables e below (s₁.setTop (mkF m 28 #[.val (.int (16 : Int32))] [(.int (3 : Int32)), (.int (16 : Int32))])) _
    refine XS.icmpYes X0.here hx rfl (pc0 := 28) (pc' := 35) rfl (hb hby d1_28) rfl (feq (by decide : ¬ ((16 : Int32) = (3 : Int32)))).2 (by decide) (by decide) ?_
    show Steps p.tables e below (s₁.setTop (mkF m 35 #[.val (.int (16 : Int32))] [])) _
    refine XS.iloadN X0.here hx rfl (hb hby d1_35) rfl ?_
    show Steps p.tables e below (s₁.setTop (mkF m 36 #[.val (.int (16 : Int32))] [(.int (16 : Int32))])) _
    refine XS.iconst X0.here hx rfl (hb hby d1_36) ?_
    show Steps p.tables e below (s₁.setTop (mkF m 37 #[.val (.int (16 : Int32))] [(.int (4 : Int32)), (.int (16 : Int32))])) _
    refine XS.icmpYes X0.here hx rfl (pc0 := 37) (pc' := 44) rfl (hb hby d1_37) rfl (feq (by decide : ¬ ((16 : Int32) = (4 : Int32)))).2 (by decide) (by decide) ?_
    show Steps p.tables e below (s₁.setTop (mkF m 44 #[.val (.int (16 : Int32))] [])) _
    refine XS.iloadN X0.here hx rfl (hb hby d1_44) rfl ?_
    show Steps p.tables e below (s₁.setTop (mkF m 45 #[.val (.int (16 : Int32))] [(.int (16 : Int32))])) _
    refine XS.iconst X0.here hx rfl (hb hby d1_45) ?_
    show Steps p.tables e below (s₁.setTop (mkF m 46 #[.val (.int (16 : Int32))] [(.int (5 : Int32)), (.int (16 : Int32))])) _
    refine XS.icmpYes X0.here hx rfl (pc0 := 46) (pc' := 53) rfl (hb hby d1_46) rfl (feq (by decide : ¬ ((16 : Int32) = (5 : Int32)))).2 (by decide) (by decide) ?_
    show Steps p.tables e below (s₁.setTop (mkF m 53 #[.val (.int (16 : Int32))] [])) _
    refine XS.iloadN X0.here hx rfl (hb hby d1_53) rfl ?_
    show Steps p.tables e below (s₁.setTop (mkF m 54 #[.val (.int (16 : Int32))] [(.int (16 : Int32))])) _
    refine XS.bipush X0.here hx rfl (hb hby d1_54) ?_
    show Steps p.tables e below (s₁.setTop (mkF m 56 #[.val (.int (16 : Int32))] [(.int (6 : Int32)), (.int (16 : Int32))])) _
    refine XS.icmpYes X0.here hx rfl (pc0 := 56) (pc' := 63) rfl (hb hby d1_56) rfl (feq (by decide : ¬ ((16 : Int32) = (6 : Int32)))).2 (by decide) (by decide) ?_
    show Steps p.tables e below (s₁.setTop (mkF m 63 #[.val (.int (16 : Int32))] [])) _
    refine XS.iloadN X0.here hx rfl (hb hby d1_63) rfl ?_
    show Steps p.tables e below (s₁.setTop (mkF m 64 #[.val (.int (16 : Int32))] [(.int (16 : Int32))])) _
    refine XS.bipush X0.here hx rfl (hb hby d1_64) ?_
    show Steps p.tables e below (s₁.setTop (mkF m 66 #[.val (.int (16 : Int32))] [(.int (7 : Int32)), (.int (16 : Int32))])) _
    refine XS.icmpYes X0.here hx rfl (pc0 := 66) (pc' := 73) rfl (hb hby d1_66) rfl (feq (by decide : ¬ ((16 : Int32) = (7 : Int32)))).2 (by decide) (by decide) ?_
    show Steps p.tables e below (s₁.setTop (mkF m 73 #[.val (.int (16 : Int32))] [])) _
    refine XS.iloadN X0.here hx rfl (hb hby d1_73) rfl ?_
    show Steps p.tables e below (s₁.setTop (mkF m 74 #[.val (.int (16 : Int32))] [(.int (16 : Int32))])) _
    refine XS.bipush X0.here hx rfl (hb hby d1_74) ?_
    show Steps p.tables e below (s₁.setTop (mkF m 76 #[.val (.int (16 : Int32))] [(.int (8 : Int32)), (.int (16 : Int32))])) _
    refine XS.icmpYes X0.here hx rfl (pc0 := 76) (pc' := 83) rfl (hb hby d1_76) rfl (feq (by decide : ¬ ((16 : Int32) = (8 : Int32)))).2 (by decide) (by decide) ?_
    show Steps p.tables e below (s₁.setTop (mkF m 83 #[.val (.int (16 : Int32))] [])) _
    refine XS.iloadN X0.here hx rfl (hb hby d1_83) rfl ?_
    show Steps p.tables e below (s₁.setTop (mkF m 84 #[.val (.int (16 : Int32))] [(.int (16 : Int32))])) _
    refine XS.bipush X0.here hx rfl (hb hby d1_84) ?_
    show Steps p.tables e below (s₁.setTop (mkF m 86 #[.val (.int (16 : Int32))] [(.int (9 : Int32)), (.int (16 : Int32))])) _
    refine XS.icmpYes X0.here hx rfl (pc0 := 86) (pc' := 93) rfl (hb hby d1_86) rfl (feq (by decide : ¬ ((16 : Int32) = (9 : Int32)))).2 (by decide) (by decide) ?_
    show Steps p.tables e below (s₁.setTop (mkF m 93 #[.val (.int (16 : Int32))] [])) _
    refine XS.iloadN X0.here hx rfl (hb hby d1_93) rfl ?_
    show Steps p.tables e below (s₁.setTop (mkF m 94 #[.val (.int (16 : Int32))] [(.int (16 : Int32))])) _
    refine XS.bipush X0.here hx rfl (hb hby d1_94) ?_
    show Steps p.tables e below (s₁.setTop (mkF m 96 #[.val (.int (16 : Int32))] [(.int (10 : Int32)), (.int (16 : Int32))])) _
    refine XS.icmpYes X0.here hx rfl (pc0 := 96) (pc' := 103) rfl (hb hby d1_96) rfl (feq (by decide : ¬ ((16 : Int32) = (10 : Int32)))).2 (by decide) (by decide) ?_
    show Steps p.tables e below (s₁.setTop (mkF m 103 #[.val (.int (16 : Int32))] [])) _
    refine XS.iloadN X0.here hx rfl (hb hby d1_103) rfl ?_
    show Steps p.tables e below (s₁.setTop (mkF m 104 #[.val (.int (16 : Int32))] [(.int (16 : Int32))])) _
    refine XS.bipush X0.here hx rfl (hb hby d1_104) ?_
    show Steps p.tables e below (s₁.setTop (mkF m 106 #[.val (.int (16 : Int32))] [(.int (11 : Int32)), (.int (16 : Int32))])) _
    refine XS.icmpYes X0.here hx rfl (pc0 := 106) (pc' := 113) rfl (hb hby d1_106) rfl (feq (by decide : ¬ ((16 : Int32) = (11 : Int32)))).2 (by decide) (by decide) ?_
    show Steps p.tables e below (s₁.setTop (mkF m 113 #[.val (.int (16 : Int32))] [])) _
    refine XS.iloadN X0.here hx rfl (hb hby d1_113) rfl ?_
    show Steps p.tables e below (s₁.setTop (mkF m 114 #[.val (.int (16 : Int32))] [(.int (16 : Int32))])) _
    refine XS.bipush X0.here hx rfl (hb hby d1_114) ?_
    show Steps p.tables e below (s₁.setTop (mkF m 116 #[.val (.int (16 : Int32))] [(.int (12 : Int32)), (.int (16 : Int32))])) _
    refine XS.icmpYes X0.here hx rfl (pc0 := 116) (pc' := 123) rfl (hb hby d1_116) rfl (feq (by decide : ¬ ((16 : Int32) = (12 : Int32)))).2 (by decide) (by decide) ?_
    show Steps p.tables e below (s₁.setTop (mkF m 123 #[.val (.int (16 : Int32))] [])) _
    refine XS.iloadN X0.here hx rfl (hb hby d1_123) rfl ?_
    show Steps p.tables e below (s₁.setTop (mkF m 124 #[.val (.int (16 : Int32))] [(.int (16 : Int32))])) _
    refine XS.bipush X0.here hx rfl (hb hby d1_124) ?_
    show Steps p.tables e below (s₁.setTop (mkF m 126 #[.val (.int (16 : Int32))] [(.int (13 : Int32)), (.int (16 : Int32))])) _
    refine XS.icmpYes X0.here hx rfl (pc0 := 126) (pc' := 133) rfl (hb hby d1_126) rfl (feq (by decide : ¬ ((16 : Int32) = (13 : Int32)))).2 (by decide) (by decide) ?_
    show Steps p.tables e below (s₁.setTop (mkF m 133 #[.val (.int (16 : Int32))] [])) _
    refine XS.iloadN X0.here hx rfl (hb hby d1_133) rfl ?_
    show Steps p.tables e below (s₁.setTop (mkF m 134 #[.val (.int (16 : Int32))] [(.int (16 : Int32))])) _
    refine XS.bipush X0.here hx rfl (hb hby d1_134) ?_
    show Steps p.tables e below (s₁.setTop (mkF m 136 #[.val (.int (16 : Int32))] [(.int (14 : Int32)), (.int (16 : Int32))])) _
    refine XS.icmpYes X0.here hx rfl (pc0 := 136) (pc' := 143) rfl (hb hby d1_136) rfl (feq (by decide : ¬ ((16 : Int32) = (14 : Int32)))).2 (by decide) (by decide) ?_
    show Steps p.tables e below (s₁.setTop (mkF m 143 #[.val (.int (16 : Int32))] [])) _
    refine XS.iloadN X0.here hx rfl (hb hby d1_143) rfl ?_
    show Steps p.tables e below (s₁.setTop (mkF m 144 #[.val (.int (16 : Int32))] [(.int (16 : Int32))])) _
    refine XS.bipush X0.here hx rfl (hb hby d1_144) ?_
    show Steps p.tables e below (s₁.setTop (mkF m 146 #[.val (.int (16 : Int32))] [(.int (15 : Int32)), (.int (16 : Int32))])) _
    refine XS.icmpYes X0.here hx rfl (pc0 := 146) (pc' := 153) rfl (hb hby d1_146) rfl (feq (by decide : ¬ ((16 : Int32) = (15 : Int32)))).2 (by decide) (by decide) ?_
    show Steps p.tables e below (s₁.setTop (mkF m 153 #[.val (.int (16 : Int32))] [])) _
    refine XS.iloadN X0.here hx rfl (hb hby d1_153) rfl ?_
    show Steps p.tables e below (s₁.setTop (mkF m 154 #[.val (.int (16 : Int32))] [(.int (16 : Int32))])) _
    refine XS.bipush X0.here hx rfl (hb hby d1_154) ?_
    show Steps p.tables e below (s₁.setTop (mkF m 156 #[.val (.int (16 : Int32))] [(.int (16 : Int32)), (.int (16 : Int32))])) _
    refine XS.icmpNo X0.here hx rfl (hb hby d1_156) rfl (teq (by decide : (16 : Int32) = (16 : Int32))).2 ?_
    show Steps p.tables e below (s₁.setTop (mkF m 159 #[.val (.int (16 : Int32))] [])) _
    exact kt
  obtain ⟨T2, X2, e2, st2⟩ := getS2 X0 hx hZ hown (host := "") (Or.inl (hw _ (own_w 48 rfl))) Via.refl e0 (SINIT_PRODUCER_ID.ext O0.2) (g := (mkF m 159 #[.val (.int (16 : Int32))] [])) rfl (hb hby d1_159)
  have pre3 : own_Go p e below S0 (T2.setTop (mkF m 162 #[.val (.int (16 : Int32))] [(.ref wINIT_PRODUCER_ID)])) := by
    intro t kt
    refine pre1 t ?_
    refine st2 _ ?_
    show Steps p.tables e below (T2.setTop (mkF m 162 #[.val (.int (16 : Int32))] [(.ref wINIT_PRODUCER_ID)])) _
    exact kt
  obtain ⟨fs, hr, hrun, hended, hW, hsame⟩ := X2.leave (v := some (.ref wINIT_PRODUCER_ID)) (fun h => by rw [Bd.returns] at h; cases h)
  refine ⟨_, _, fin _ (pre3 _ ?_), hrun, hended, _, _, rfl, ?_, ⟨_, rfl⟩, hW, hsame.mono (by decide) (by decide)⟩
  · jvm_step X2.here [X2.here.top, hx, (hb hby d1_162), X2.method', Bd.returns, Value.isRef, FieldType.isReference]
    first | (intro acts; rw [hr _ acts rfl rfl rfl]) | rw [hr _ _ rfl rfl rfl]
    exact Steps.refl _
  · show Q1n16 Z wINIT_PRODUCER_ID h0 n0 _ T2.heap _
    rw [e2]
    exact ⟨rfl, N0, rfl⟩

theorem d1_163 : decode method_2_code 163 = .ok (.getstatic 61, 3) := by decide +kernel
theorem d1_166 : decode method_2_code 166 = .ok (.areturn, 1) := by decide +kernel
theorem ef_1n17 (m : MethodId)  : entryFrame m #[(.int (17 : Int32))] 1 = mkF m 0 #[.val (.int (17 : Int32))] [] := by first | (simp [entryFrame, mkF, argsToLocals, Value.category]; done) | rfl
def Q1n17 (Z : State) (wCREATE_PARTITIONS : Addr) (h0 : Heap) (n0 : Nat) (v : Option Value) (h : Heap) (L : List Loc) : Prop := v = (some (.ref wCREATE_PARTITIONS)) ∧ Fr n0 L ∧ h = h0
set_option maxRecDepth 65536 in
set_option maxHeartbeats 40000000 in
theorem rm1n17 (l : Launch) (Z : State) (a0 : Array Value) (hw : ∀ d ∈ tables_1, d.before a0 Z = true) (ws : List Jvm.Cond) (wCREATE_PARTITIONS : Addr) (h0 : Heap) (n0 : Nat) (Z0 : n0 ≤ h0.size) (O0 : Old Z n0 h0) (SCREATE_PARTITIONS : Sta Z Z.heap "com/example/eurybates/eurybates/protocol/ApiKey" "CREATE_PARTITIONS" "Lcom/example/eurybates/eurybates/protocol/ApiKey;" (.ref wCREATE_PARTITIONS)) :
    MetFree l (⟨"com/example/eurybates/eurybates/protocol/ApiKeyImplementsVersionPinLaw", "pick", "(I)Lcom/example/eurybates/eurybates/protocol/ApiKey;"⟩ : MethodName) (head1 (Jvm.Cond.code (⟨"com/example/eurybates/eurybates/protocol/ApiKeyImplementsVersionPinLaw", "pick", "(I)Lcom/example/eurybates/eurybates/protocol/ApiKey;"⟩ : MethodName) method_2_code 1 (some (.object "com/example/eurybates/eurybates/protocol/ApiKey")) :: ws) ({ frames := 0, cells := 0, slots := 0, locals := 0 } : Room)) (fun a U => a = #[(.int (17 : Int32))] ∧ Z.Warmed39 U.vm ∧ U.heap = h0) (fun _ _ _ _ _ => True) (fun _ U o U' => ∃ v L, o = .returned v ∧ Q1n17 Z wCREATE_PARTITIONS h0 n0 v U'.heap L ∧ FrameEnd U o U' L ({ frames := 0, cells := 0, slots := 0, locals := 0 } : Room).cells ({ frames := 0, cells := 0, slots := 0, locals := 0 } : Room).slots) := by
  refine MetFree.of_bodySF (plainFor_of_name pn_1) hisR ?_
  intro p e s m args below meth c s₁ Bd hml0 hP hK
  obtain ⟨rfl, hZ, hh⟩ := hP
  have hx := Bd.exec
  have hby := Bd.bytes
  have hml : c.maxLocals = 1 := hml0
  have hown0 := findClass_of_methodNamed Bd.named
  have hown : s.vm.findClass "com/example/eurybates/eurybates/protocol/ApiKeyImplementsVersionPinLaw" = some m.cls := hown0
  have hnm := (name_of_methodNamed Bd.named Bd.method).1
  have X0 : Stand p l e ({ frames := 0, cells := 0, slots := 0, locals := 0 } : Room) s m #[(.int (17 : Int32))] below meth c s₁ [] 0 0 := Stand.of_body Bd
  have e0 : s₁.heap = h0 := by rw [← hh, Bd.state]; rfl
  have N0 := Fr.nil n0
  obtain ⟨S0, hS0⟩ : ∃ z, z = s₁.setTop (entryFrame m #[(.int (17 : Int32))] 1) := ⟨_, rfl⟩
  have pre0 : own_Go p e below S0 (s₁.setTop (mkF m 0 #[.val (.int (17 : Int32))] [])) := fun t k => by rw [hS0]; exact castTop (ef_1n17 m ) k
  have fin : ∀ t, Steps p.tables e below S0 t → Steps p.tables e below (s₁.setTop (entryFrame m #[(.int (17 : Int32))] 1)) t := fun t k => by rw [hS0] at k; exact k
  have pre1 : own_Go p e below S0 (s₁.setTop (mkF m 163 #[.val (.int (17 : Int32))] [])) := by
    intro t kt
    refine pre0 t ?_
    refine XS.iloadN X0.here hx rfl (hb hby d1_0) rfl ?_
    show Steps p.tables e below (s₁.setTop (mkF m 1 #[.val (.int (17 : Int32))] [(.int (17 : Int32))])) _
    refine XS.ifYes X0.here hx rfl (pc0 := 1) (pc' := 8) rfl (hb hby d1_1) rfl ((if0 _ _).trans (feq (by decide : ¬ ((17 : Int32) = (0 : Int32)))).2) (by decide) (by decide) ?_
    show Steps p.tables e below (s₁.setTop (mkF m 8 #[.val (.int (17 : Int32))] [])) _
    refine XS.iloadN X0.here hx rfl (hb hby d1_8) rfl ?_
    show Steps p.tables e below (s₁.setTop (mkF m 9 #[.val (.int (17 : Int32))] [(.int (17 : Int32))])) _
    refine XS.iconst X0.here hx rfl (hb hby d1_9) ?_
    show Steps p.tables e below (s₁.setTop (mkF m 10 #[.val (.int (17 : Int32))] [(.int (1 : Int32)), (.int (17 : Int32))])) _
    refine XS.icmpYes X0.here hx rfl (pc0 := 10) (pc' := 17) rfl (hb hby d1_10) rfl (feq (by decide : ¬ ((17 : Int32) = (1 : Int32)))).2 (by decide) (by decide) ?_
    show Steps p.tables e below (s₁.setTop (mkF m 17 #[.val (.int (17 : Int32))] [])) _
    refine XS.iloadN X0.here hx rfl (hb hby d1_17) rfl ?_
    show Steps p.tables e below (s₁.setTop (mkF m 18 #[.val (.int (17 : Int32))] [(.int (17 : Int32))])) _
    refine XS.iconst X0.here hx rfl (hb hby d1_18) ?_
    show Steps p.tables e below (s₁.setTop (mkF m 19 #[.val (.int (17 : Int32))] [(.int (2 : Int32)), (.int (17 : Int32))])) _
    refine XS.icmpYes X0.here hx rfl (pc0 := 19) (pc' := 26) rfl (hb hby d1_19) rfl (feq (by decide : ¬ ((17 : Int32) = (2 : Int32)))).2 (by decide) (by decide) ?_
    show Steps p.tables e below (s₁.setTop (mkF m 26 #[.val (.int (17 : Int32))] [])) _
    refine XS.iloadN X0.here hx rfl (hb hby d1_26) rfl ?_
    show Steps p.tables e below (s₁.setTop (mkF m 27 #[.val (.int (17 : Int32))] [(.int (17 : Int32))])) _
    refine XS.iconst X0.here hx rfl (hb hby d1_27) ?_
    show Steps p.tables e below (s₁.setTop (mkF m 28 #[.val (.int (17 : Int32))] [(.int (3 : Int32)), (.int (17 : Int32))])) _
    refine XS.icmpYes X0.here hx rfl (pc0 := 28) (pc' := 35) rfl (hb hby d1_28) rfl (feq (by decide : ¬ ((17 : Int32) = (3 : Int32)))).2 (by decide) (by decide) ?_
    show Steps p.tables e below (s₁.setTop (mkF m 35 #[.val (.int (17 : Int32))] [])) _
    refine XS.iloadN X0.here hx rfl (hb hby d1_35) rfl ?_
    show Steps p.tables e below (s₁.setTop (mkF m 36 #[.val (.int (17 : Int32))] [(.int (17 : Int32))])) _
    refine XS.iconst X0.here hx rfl (hb hby d1_36) ?_
    show Steps p.tables e below (s₁.setTop (mkF m 37 #[.val (.int (17 : Int32))] [(.int (4 : Int32)), (.int (17 : Int32))])) _
    refine XS.icmpYes X0.here hx rfl (pc0 := 37) (pc' := 44) rfl (hb hby d1_37) rfl (feq (by decide : ¬ ((17 : Int32) = (4 : Int32)))).2 (by decide) (by decide) ?_
    show Steps p.tables e below (s₁.setTop (mkF m 44 #[.val (.int (17 : Int32))] [])) _
    refine XS.iloadN X0.here hx rfl (hb hby d1_44) rfl ?_
    show Steps p.tables e below (s₁.setTop (mkF m 45 #[.val (.int (17 : Int32))] [(.int (17 : Int32))])) _
    refine XS.iconst X0.here hx rfl (hb hby d1_45) ?_
    show Steps p.tables e below (s₁.setTop (mkF m 46 #[.val (.int (17 : Int32))] [(.int (5 : Int32)), (.int (17 : Int32))])) _
    refine XS.icmpYes X0.here hx rfl (pc0 := 46) (pc' := 53) rfl (hb hby d1_46) rfl (feq (by decide : ¬ ((17 : Int32) = (5 : Int32)))).2 (by decide) (by decide) ?_
    show Steps p.tables e below (s₁.setTop (mkF m 53 #[.val (.int (17 : Int32))] [])) _
    refine XS.iloadN X0.here hx rfl (hb hby d1_53) rfl ?_
    show Steps p.tables e below (s₁.setTop (mkF m 54 #[.val (.int (17 : Int32))] [(.int (17 : Int32))])) _
    refine XS.bipush X0.here hx rfl (hb hby d1_54) ?_
    show Steps p.tables e below (s₁.setTop (mkF m 56 #[.val (.int (17 : Int32))] [(.int (6 : Int32)), (.int (17 : Int32))])) _
    refine XS.icmpYes X0.here hx rfl (pc0 := 56) (pc' := 63) rfl (hb hby d1_56) rfl (feq (by decide : ¬ ((17 : Int32) = (6 : Int32)))).2 (by decide) (by decide) ?_
    show Steps p.tables e below (s₁.setTop (mkF m 63 #[.val (.int (17 : Int32))] [])) _
    refine XS.iloadN X0.here hx rfl (hb hby d1_63) rfl ?_
    show Steps p.tables e below (s₁.setTop (mkF m 64 #[.val (.int (17 : Int32))] [(.int (17 : Int32))])) _
    refine XS.bipush X0.here hx rfl (hb hby d1_64) ?_
    show Steps p.tables e below (s₁.setTop (mkF m 66 #[.val (.int (17 : Int32))] [(.int (7 : Int32)), (.int (17 : Int32))])) _
    refine XS.icmpYes X0.here hx rfl (pc0 := 66) (pc' := 73) rfl (hb hby d1_66) rfl (feq (by decide : ¬ ((17 : Int32) = (7 : Int32)))).2 (by decide) (by decide) ?_
    show Steps p.tables e below (s₁.setTop (mkF m 73 #[.val (.int (17 : Int32))] [])) _
    refine XS.iloadN X0.here hx rfl (hb hby d1_73) rfl ?_
    show Steps p.tables e below (s₁.setTop (mkF m 74 #[.val (.int (17 : Int32))] [(.int (17 : Int32))])) _
    refine XS.bipush X0.here hx rfl (hb hby d1_74) ?_
    show Steps p.tables e below (s₁.setTop (mkF m 76 #[.val (.int (17 : Int32))] [(.int (8 : Int32)), (.int (17 : Int32))])) _
    refine XS.icmpYes X0.here hx rfl (pc0 := 76) (pc' := 83) rfl (hb hby d1_76) rfl (feq (by decide : ¬ ((17 : Int32) = (8 : Int32)))).2 (by decide) (by decide) ?_
    show Steps p.tables e below (s₁.setTop (mkF m 83 #[.val (.int (17 : Int32))] [])) _
    refine XS.iloadN X0.here hx rfl (hb hby d1_83) rfl ?_
    show Steps p.tables e below (s₁.setTop (mkF m 84 #[.val (.int (17 : Int32))] [(.int (17 : Int32))])) _
    refine XS.bipush X0.here hx rfl (hb hby d1_84) ?_
    show Steps p.tables e below (s₁.setTop (mkF m 86 #[.val (.int (17 : Int32))] [(.int (9 : Int32)), (.int (17 : Int32))])) _
    refine XS.icmpYes X0.here hx rfl (pc0 := 86) (pc' := 93) rfl (hb hby d1_86) rfl (feq (by decide : ¬ ((17 : Int32) = (9 : Int32)))).2 (by decide) (by decide) ?_
    show Steps p.tables e below (s₁.setTop (mkF m 93 #[.val (.int (17 : Int32))] [])) _
    refine XS.iloadN X0.here hx rfl (hb hby d1_93) rfl ?_
    show Steps p.tables e below (s₁.setTop (mkF m 94 #[.val (.int (17 : Int32))] [(.int (17 : Int32))])) _
    refine XS.bipush X0.here hx rfl (hb hby d1_94) ?_
    show Steps p.tables e below (s₁.setTop (mkF m 96 #[.val (.int (17 : Int32))] [(.int (10 : Int32)), (.int (17 : Int32))])) _
    refine XS.icmpYes X0.here hx rfl (pc0 := 96) (pc' := 103) rfl (hb hby d1_96) rfl (feq (by decide : ¬ ((17 : Int32) = (10 : Int32)))).2 (by decide) (by decide) ?_
    show Steps p.tables e below (s₁.setTop (mkF m 103 #[.val (.int (17 : Int32))] [])) _
    refine XS.iloadN X0.here hx rfl (hb hby d1_103) rfl ?_
    show Steps p.tables e below (s₁.setTop (mkF m 104 #[.val (.int (17 : Int32))] [(.int (17 : Int32))])) _
    refine XS.bipush X0.here hx rfl (hb hby d1_104) ?_
    show Steps p.tables e below (s₁.setTop (mkF m 106 #[.val (.int (17 : Int32))] [(.int (11 : Int32)), (.int (17 : Int32))])) _
    refine XS.icmpYes X0.here hx rfl (pc0 := 106) (pc' := 113) rfl (hb hby d1_106) rfl (feq (by decide : ¬ ((17 : Int32) = (11 : Int32)))).2 (by decide) (by decide) ?_
    show Steps p.tables e below (s₁.setTop (mkF m 113 #[.val (.int (17 : Int32))] [])) _
    refine XS.iloadN X0.here hx rfl (hb hby d1_113) rfl ?_
    show Steps p.tables e below (s₁.setTop (mkF m 114 #[.val (.int (17 : Int32))] [(.int (17 : Int32))])) _
    refine XS.bipush X0.here hx rfl (hb hby d1_114) ?_
    show Steps p.tables e below (s₁.setTop (mkF m 116 #[.val (.int (17 : Int32))] [(.int (12 : Int32)), (.int (17 : Int32))])) _
    refine XS.icmpYes X0.here hx rfl (pc0 := 116) (pc' := 123) rfl (hb hby d1_116) rfl (feq (by decide : ¬ ((17 : Int32) = (12 : Int32)))).2 (by decide) (by decide) ?_
    show Steps p.tables e below (s₁.setTop (mkF m 123 #[.val (.int (17 : Int32))] [])) _
    refine XS.iloadN X0.here hx rfl (hb hby d1_123) rfl ?_
    show Steps p.tables e below (s₁.setTop (mkF m 124 #[.val (.int (17 : Int32))] [(.int (17 : Int32))])) _
    refine XS.bipush X0.here hx rfl (hb hby d1_124) ?_
    show Steps p.tables e below (s₁.setTop (mkF m 126 #[.val (.int (17 : Int32))] [(.int (13 : Int32)), (.int (17 : Int32))])) _
    refine XS.icmpYes X0.here hx rfl (pc0 := 126) (pc' := 133) rfl (hb hby d1_126) rfl (feq (by decide : ¬ ((17 : Int32) = (13 : Int32)))).2 (by decide) (by decide) ?_
    show Steps p.tables e below (s₁.setTop (mkF m 133 #[.val (.int (17 : Int32))] [])) _
    refine XS.iloadN X0.here hx rfl (hb hby d1_133) rfl ?_
    show Steps p.tables e below (s₁.setTop (mkF m 134 #[.val (.int (17 : Int32))] [(.int (17 : Int32))])) _
    refine XS.bipush X0.here hx rfl (hb hby d1_134) ?_
    show Steps p.tables e below (s₁.setTop (mkF m 136 #[.val (.int (17 : Int32))] [(.int (14 : Int32)), (.int (17 : Int32))])) _
    refine XS.icmpYes X0.here hx rfl (pc0 := 136) (pc' := 143) rfl (hb hby d1_136) rfl (feq (by decide : ¬ ((17 : Int32) = (14 : Int32)))).2 (by decide) (by decide) ?_
    show Steps p.tables e below (s₁.setTop (mkF m 143 #[.val (.int (17 : Int32))] [])) _
    refine XS.iloadN X0.here hx rfl (hb hby d1_143) rfl ?_
    show Steps p.tables e below (s₁.setTop (mkF m 144 #[.val (.int (17 : Int32))] [(.int (17 : Int32))])) _
    refine XS.bipush X0.here hx rfl (hb hby d1_144) ?_
    show Steps p.tables e below (s₁.setTop (mkF m 146 #[.val (.int (17 : Int32))] [(.int (15 : Int32)), (.int (17 : Int32))])) _
    refine XS.icmpYes X0.here hx rfl (pc0 := 146) (pc' := 153) rfl (hb hby d1_146) rfl (feq (by decide : ¬ ((17 : Int32) = (15 : Int32)))).2 (by decide) (by decide) ?_
    show Steps p.tables e below (s₁.setTop (mkF m 153 #[.val (.int (17 : Int32))] [])) _
    refine XS.iloadN X0.here hx rfl (hb hby d1_153) rfl ?_
    show Steps p.tables e below (s₁.setTop (mkF m 154 #[.val (.int (17 : Int32))] [(.int (17 : Int32))])) _
    refine XS.bipush X0.here hx rfl (hb hby d1_154) ?_
    show Steps p.tables e below (s₁.setTop (mkF m 156 #[.val (.int (17 : Int32))] [(.int (16 : Int32)), (.int (17 : Int32))])) _
    refine XS.icmpYes X0.here hx rfl (pc0 := 156) (pc' := 163) rfl (hb hby d1_156) rfl (feq (by decide : ¬ ((17 : Int32) = (16 : Int32)))).2 (by decide) (by decide) ?_
    show Steps p.tables e below (s₁.setTop (mkF m 163 #[.val (.int (17 : Int32))] [])) _
    exact kt
  obtain ⟨T2, X2, e2, st2⟩ := getS2 X0 hx hZ hown (host := "") (Or.inl (hw _ (own_w 46 rfl))) Via.refl e0 (SCREATE_PARTITIONS.ext O0.2) (g := (mkF m 163 #[.val (.int (17 : Int32))] [])) rfl (hb hby d1_163)
  have pre3 : own_Go p e below S0 (T2.setTop (mkF m 166 #[.val (.int (17 : Int32))] [(.ref wCREATE_PARTITIONS)])) := by
    intro t kt
    refine pre1 t ?_
    refine st2 _ ?_
    show Steps p.tables e below (T2.setTop (mkF m 166 #[.val (.int (17 : Int32))] [(.ref wCREATE_PARTITIONS)])) _
    exact kt
  obtain ⟨fs, hr, hrun, hended, hW, hsame⟩ := X2.leave (v := some (.ref wCREATE_PARTITIONS)) (fun h => by rw [Bd.returns] at h; cases h)
  refine ⟨_, _, fin _ (pre3 _ ?_), hrun, hended, _, _, rfl, ?_, ⟨_, rfl⟩, hW, hsame.mono (by decide) (by decide)⟩
  · jvm_step X2.here [X2.here.top, hx, (hb hby d1_166), X2.method', Bd.returns, Value.isRef, FieldType.isReference]
    first | (intro acts; rw [hr _ acts rfl rfl rfl]) | rw [hr _ _ rfl rfl rfl]
    exact Steps.refl _
  · show Q1n17 Z wCREATE_PARTITIONS h0 n0 _ T2.heap _
    rw [e2]
    exact ⟨rfl, N0, rfl⟩

theorem d2_0 : decode prog_35_method_8_code 0 = .ok (.aload_n 0, 1) := by decide +kernel
theorem d2_1 : decode prog_35_method_8_code 1 = .ok (.getfield 81, 3) := by decide +kernel
theorem d2_4 : decode prog_35_method_8_code 4 = .ok (.iload_n 1, 1) := by decide +kernel
theorem d2_5 : decode prog_35_method_8_code 5 = .ok (.if_icmp .gt 15, 3) := by decide +kernel
theorem d2_8 : decode prog_35_method_8_code 8 = .ok (.iload_n 1, 1) := by decide +kernel
theorem d2_9 : decode prog_35_method_8_code 9 = .ok (.aload_n 0, 1) := by decide +kernel
theorem d2_10 : decode prog_35_method_8_code 10 = .ok (.getfield 84, 3) := by decide +kernel
theorem d2_13 : decode prog_35_method_8_code 13 = .ok (.if_icmp .gt 7, 3) := by decide +kernel
theorem d2_16 : decode prog_35_method_8_code 16 = .ok (.iconst 1, 1) := by decide +kernel
theorem d2_17 : decode prog_35_method_8_code 17 = .ok (.goto 4, 3) := by decide +kernel
theorem d2_20 : decode prog_35_method_8_code 20 = .ok (.iconst 0, 1) := by decide +kernel
theorem d2_21 : decode prog_35_method_8_code 21 = .ok (.ireturn, 1) := by decide +kernel
theorem pn_2 : plainName "com/example/eurybates/eurybates/protocol/ApiKey" = true := by first | (simp [plainName, overriddenIn]; done) | decide +kernel
theorem ef_2 (m : MethodId) (x0 : Addr) (x1 : Int32) : entryFrame m #[(.ref x0), (.int x1)] 2 = mkF m 0 #[.val (.ref x0), .val (.int x1)] [] := by first | (simp [entryFrame, mkF, argsToLocals, Value.category]; done) | rfl
def own_impl (a1 : Addr) (p2 : Int32) (w1 : Int32) (w2 : Int32) : Int32 := (if p2 < w1 then (0 : Int32) else (if w2 < p2 then (0 : Int32) else (1 : Int32)))
def Q2 (Z : State) (a1 : Addr) (p2 : Int32) (w1 : Int32) (w2 : Int32) (h0 : Heap) (n0 : Nat) (v : Option Value) (h : Heap) (L : List Loc) : Prop := v = (some (.int (own_impl a1 p2 w1 w2))) ∧ Fr n0 L ∧ h = h0
set_option maxRecDepth 65536 in
set_option maxHeartbeats 40000000 in
theorem rm2 (l : Launch) (Z : State) (a0 : Array Value) (hw : ∀ d ∈ tables_1, d.before a0 Z = true) (ws : List Jvm.Cond) (a1 : Addr) (p2 : Int32) (w1 : Int32) (w2 : Int32) (h0 : Heap) (n0 : Nat) (Z0 : n0 ≤ h0.size) (F1 : Fld Z h0 a1 "com/example/eurybates/eurybates/protocol/ApiKey" "oldestVersion" "S" (.int w1)) (F2 : Fld Z h0 a1 "com/example/eurybates/eurybates/protocol/ApiKey" "latestVersion" "S" (.int w2)) :
    MetFree l (⟨"com/example/eurybates/eurybates/protocol/ApiKey", "implementsVersion", "(S)Z"⟩ : MethodName) (head1 (Jvm.Cond.code (⟨"com/example/eurybates/eurybates/protocol/ApiKey", "implementsVersion", "(S)Z"⟩ : MethodName) prog_35_method_8_code 2 (some .boolean) :: ws) ({ frames := 0, cells := 0, slots := 0, locals := 0 } : Room)) (fun a U => a = #[(.ref a1), (.int p2)] ∧ Z.Warmed39 U.vm ∧ U.heap = h0) (fun _ _ _ _ _ => True) (fun _ U o U' => ∃ v L, o = .returned v ∧ Q2 Z a1 p2 w1 w2 h0 n0 v U'.heap L ∧ FrameEnd U o U' L ({ frames := 0, cells := 0, slots := 0, locals := 0 } : Room).cells ({ frames := 0, cells := 0, slots := 0, locals := 0 } : Room).slots) := by
  refine MetFree.of_bodySF (plainFor_of_name pn_2) hisR ?_
  intro p e s m args below meth c s₁ Bd hml0 hP hK
  obtain ⟨rfl, hZ, hh⟩ := hP
  have hx := Bd.exec
  have hby := Bd.bytes
  have hml : c.maxLocals = 2 := hml0
  have hown0 := findClass_of_methodNamed Bd.named
  have hown : s.vm.findClass "com/example/eurybates/eurybates/protocol/ApiKey" = some m.cls := hown0
  have hnm := (name_of_methodNamed Bd.named Bd.method).1
  have X0 : Stand p l e ({ frames := 0, cells := 0, slots := 0, locals := 0 } : Room) s m #[(.ref a1), (.int p2)] below meth c s₁ [] 0 0 := Stand.of_body Bd
  have e0 : s₁.heap = h0 := by rw [← hh, Bd.state]; rfl
  have N0 := Fr.nil n0
  obtain ⟨S0, hS0⟩ : ∃ z, z = s₁.setTop (entryFrame m #[(.ref a1), (.int p2)] 2) := ⟨_, rfl⟩
  have pre0 : own_Go p e below S0 (s₁.setTop (mkF m 0 #[.val (.ref a1), .val (.int p2)] [])) := fun t k => by rw [hS0]; exact castTop (ef_2 m a1 p2) k
  have fin : ∀ t, Steps p.tables e below S0 t → Steps p.tables e below (s₁.setTop (entryFrame m #[(.ref a1), (.int p2)] 2)) t := fun t k => by rw [hS0] at k; exact k
  have pre1 : own_Go p e below S0 (s₁.setTop (mkF m 1 #[.val (.ref a1), .val (.int p2)] [(.ref a1)])) := by
    intro t kt
    refine pre0 t ?_
    refine XS.aloadN X0.here hx rfl (hb hby d2_0) rfl rfl ?_
    show Steps p.tables e below (s₁.setTop (mkF m 1 #[.val (.ref a1), .val (.int p2)] [(.ref a1)])) _
    exact kt
  obtain ⟨T2, X2, e2, st2⟩ := getF X0 hx hZ hown (host := "") (Or.inl (hw _ (own_w 14 rfl))) Via.refl e0 F1 (g := (mkF m 1 #[.val (.ref a1), .val (.int p2)] [(.ref a1)])) rfl rfl (hb hby d2_1)
  have pre4 : own_Go p e below S0 (T2.setTop (mkF m 5 #[.val (.ref a1), .val (.int p2)] [(.int p2), (.int w1)])) := by
    intro t kt
    refine pre1 t ?_
    refine st2 _ ?_
    show Steps p.tables e below (T2.setTop (mkF m 4 #[.val (.ref a1), .val (.int p2)] [(.int w1)])) _
    refine XS.iloadN X2.here hx rfl (hb hby d2_4) rfl ?_
    show Steps p.tables e below (T2.setTop (mkF m 5 #[.val (.ref a1), .val (.int p2)] [(.int p2), (.int w1)])) _
    exact kt
  by_cases hc3 : p2 < w1
  · have pre5 : own_Go p e below S0 (T2.setTop (mkF m 21 #[.val (.ref a1), .val (.int p2)] [(.int (0 : Int32))])) := by
      intro t kt
      refine pre4 t ?_
      refine XS.icmpYes X2.here hx rfl (pc0 := 5) (pc' := 20) rfl (hb hby d2_5) rfl (tlt hc3).2.2.1 (by decide) (by decide) ?_
      show Steps p.tables e below (T2.setTop (mkF m 20 #[.val (.ref a1), .val (.int p2)] [])) _
      refine XS.iconst X2.here hx rfl (hb hby d2_20) ?_
      show Steps p.tables e below (T2.setTop (mkF m 21 #[.val (.ref a1), .val (.int p2)] [(.int (0 : Int32))])) _
      exact kt
    obtain ⟨fs, hr, hrun, hended, hW, hsame⟩ := X2.leave (v := some (.int (0 : Int32))) (fun h => by rw [Bd.returns] at h; cases h)
    refine ⟨_, _, fin _ (pre5 _ ?_), hrun, hended, _, _, rfl, ?_, ⟨_, rfl⟩, hW, hsame.mono (by decide) (by decide)⟩
    · exact retN X2 hx (t := .boolean) Bd.returns (by simp) (hb hby d2_21) hr
    · show Q2 Z a1 p2 w1 w2 h0 n0 _ T2.heap _
      rw [e2]
      exact ⟨(by show some _ = some _; rw [own_impl, if_pos hc3]), N0, rfl⟩
  · have pre6 : own_Go p e below S0 (T2.setTop (mkF m 10 #[.val (.ref a1), .val (.int p2)] [(.ref a1), (.int p2)])) := by
      intro t kt
      refine pre4 t ?_
      refine XS.icmpNo X2.here hx rfl (hb hby d2_5) rfl (flt hc3).2.2.1 ?_
      show Steps p.tables e below (T2.setTop (mkF m 8 #[.val (.ref a1), .val (.int p2)] [])) _
      refine XS.iloadN X2.here hx rfl (hb hby d2_8) rfl ?_
      show Steps p.tables e below (T2.setTop (mkF m 9 #[.val (.ref a1), .val (.int p2)] [(.int p2)])) _
      refine XS.aloadN X2.here hx rfl (hb hby d2_9) rfl rfl ?_
      show Steps p.tables e below (T2.setTop (mkF m 10 #[.val (.ref a1), .val (.int p2)] [(.ref a1), (.int p2)])) _
      exact kt
    obtain ⟨T7, X7, e7, st7⟩ := getF X2 hx hZ hown (host := "") (Or.inl (hw _ (own_w 16 rfl))) Via.refl e2 F2 (g := (mkF m 10 #[.val (.ref a1), .val (.int p2)] [(.ref a1), (.int p2)])) rfl rfl (hb hby d2_10)
    have pre9 : own_Go p e below S0 (T7.setTop (mkF m 13 #[.val (.ref a1), .val (.int p2)] [(.int w2), (.int p2)])) := by
      intro t kt
      refine pre6 t ?_
      refine st7 _ ?_
      show Steps p.tables e below (T7.setTop (mkF m 13 #[.val (.ref a1), .val (.int p2)] [(.int w2), (.int p2)])) _
      exact kt
    by_cases hc8 : w2 < p2
    · have pre10 : own_Go p e below S0 (T7.setTop (mkF m 21 #[.val (.ref a1), .val (.int p2)] [(.int (0 : Int32))])) := by
        intro t kt
        refine pre9 t ?_
        refine XS.icmpYes X7.here hx rfl (pc0 := 13) (pc' := 20) rfl (hb hby d2_13) rfl (tlt hc8).2.2.1 (by decide) (by decide) ?_
        show Steps p.tables e below (T7.setTop (mkF m 20 #[.val (.ref a1), .val (.int p2)] [])) _
        refine XS.iconst X7.here hx rfl (hb hby d2_20) ?_
        show Steps p.tables e below (T7.setTop (mkF m 21 #[.val (.ref a1), .val (.int p2)] [(.int (0 : Int32))])) _
        exact kt
      obtain ⟨fs, hr, hrun, hended, hW, hsame⟩ := X7.leave (v := some (.int (0 : Int32))) (fun h => by rw [Bd.returns] at h; cases h)
      refine ⟨_, _, fin _ (pre10 _ ?_), hrun, hended, _, _, rfl, ?_, ⟨_, rfl⟩, hW, hsame.mono (by decide) (by decide)⟩
      · exact retN X7 hx (t := .boolean) Bd.returns (by simp) (hb hby d2_21) hr
      · show Q2 Z a1 p2 w1 w2 h0 n0 _ T7.heap _
        rw [e7]
        exact ⟨(by show some _ = some _; rw [own_impl, if_neg hc3, if_pos hc8]), N0, rfl⟩
    · have pre11 : own_Go p e below S0 (T7.setTop (mkF m 21 #[.val (.ref a1), .val (.int p2)] [(.int (1 : Int32))])) := by
        intro t kt
        refine pre9 t ?_
        refine XS.icmpNo X7.here hx rfl (hb hby d2_13) rfl (flt hc8).2.2.1 ?_
        show Steps p.tables e below (T7.setTop (mkF m 16 #[.val (.ref a1), .val (.int p2)] [])) _
        refine XS.iconst X7.here hx rfl (hb hby d2_16) ?_
        show Steps p.tables e below (T7.setTop (mkF m 17 #[.val (.ref a1), .val (.int p2)] [(.int (1 : Int32))])) _
        refine XS.goto X7.here hx rfl (pc0 := 17) (pc' := 21) rfl (hb hby d2_17) (by decide) (by decide) ?_
        show Steps p.tables e below (T7.setTop (mkF m 21 #[.val (.ref a1), .val (.int p2)] [(.int (1 : Int32))])) _
        exact kt
      obtain ⟨fs, hr, hrun, hended, hW, hsame⟩ := X7.leave (v := some (.int (1 : Int32))) (fun h => by rw [Bd.returns] at h; cases h)
      refine ⟨_, _, fin _ (pre11 _ ?_), hrun, hended, _, _, rfl, ?_, ⟨_, rfl⟩, hW, hsame.mono (by decide) (by decide)⟩
      · exact retN X7 hx (t := .boolean) Bd.returns (by simp) (hb hby d2_21) hr
      · show Q2 Z a1 p2 w1 w2 h0 n0 _ T7.heap _
        rw [e7]
        exact ⟨(by show some _ = some _; rw [own_impl, if_neg hc3, if_neg hc8]), N0, rfl⟩

theorem own_rem18 (x : Int32) : (x &&& 2147483647) % 18 = 0 ∨ (x &&& 2147483647) % 18 = 1 ∨ (x &&& 2147483647) % 18 = 2 ∨ (x &&& 2147483647) % 18 = 3 ∨ (x &&& 2147483647) % 18 = 4 ∨ (x &&& 2147483647) % 18 = 5 ∨ (x &&& 2147483647) % 18 = 6 ∨ (x &&& 2147483647) % 18 = 7 ∨ (x &&& 2147483647) % 18 = 8 ∨ (x &&& 2147483647) % 18 = 9 ∨ (x &&& 2147483647) % 18 = 10 ∨ (x &&& 2147483647) % 18 = 11 ∨ (x &&& 2147483647) % 18 = 12 ∨ (x &&& 2147483647) % 18 = 13 ∨ (x &&& 2147483647) % 18 = 14 ∨ (x &&& 2147483647) % 18 = 15 ∨ (x &&& 2147483647) % 18 = 16 ∨ (x &&& 2147483647) % 18 = 17 := by
  have h := c_mask x 2147483647 31 (by decide) (by decide)
  have h2 := c_irem (x &&& 2147483647) 18 18 rfl
  have he : ∀ a b : Int32, a = b ↔ a.toInt = b.toInt := fun a b => Int32.toInt_inj.symm
  simp only [he, show (0 : Int32).toInt = 0 from rfl, show (1 : Int32).toInt = 1 from rfl, show (2 : Int32).toInt = 2 from rfl, show (3 : Int32).toInt = 3 from rfl, show (4 : Int32).toInt = 4 from rfl, show (5 : Int32).toInt = 5 from rfl, show (6 : Int32).toInt = 6 from rfl, show (7 : Int32).toInt = 7 from rfl, show (8 : Int32).toInt = 8 from rfl, show (9 : Int32).toInt = 9 from rfl, show (10 : Int32).toInt = 10 from rfl, show (11 : Int32).toInt = 11 from rfl, show (12 : Int32).toInt = 12 from rfl, show (13 : Int32).toInt = 13 from rfl, show (14 : Int32).toInt = 14 from rfl, show (15 : Int32).toInt = 15 from rfl, show (16 : Int32).toInt = 16 from rfl, show (17 : Int32).toInt = 17 from rfl]
  omega

def own_All (Z : State) (wPRODUCE : Addr) (wFETCH : Addr) (wLIST_OFFSETS : Addr) (wMETADATA : Addr) (wOFFSET_COMMIT : Addr) (wOFFSET_FETCH : Addr) (wFIND_COORDINATOR : Addr) (wJOIN_GROUP : Addr) (wHEARTBEAT : Addr) (wLEAVE_GROUP : Addr) (wSYNC_GROUP : Addr) (wDESCRIBE_GROUPS : Addr) (wLIST_GROUPS : Addr) (wAPI_VERSIONS : Addr) (wCREATE_TOPICS : Addr) (wDELETE_TOPICS : Addr) (wINIT_PRODUCER_ID : Addr) (wCREATE_PARTITIONS : Addr) : Prop := (Sta Z Z.heap "com/example/eurybates/eurybates/protocol/ApiKey" "PRODUCE" "Lcom/example/eurybates/eurybates/protocol/ApiKey;" (.ref wPRODUCE) ∧ Exa Z Z.heap wPRODUCE "com/example/eurybates/eurybates/protocol/ApiKey" ∧ Fld Z Z.heap wPRODUCE "com/example/eurybates/eurybates/protocol/ApiKey" "oldestVersion" "S" (.int (3 : Int32)) ∧ Fld Z Z.heap wPRODUCE "com/example/eurybates/eurybates/protocol/ApiKey" "latestVersion" "S" (.int (7 : Int32))) ∧ (Sta Z Z.heap "com/example/eurybates/eurybates/protocol/ApiKey" "FETCH" "Lcom/example/eurybates/eurybates/protocol/ApiKey;" (.ref wFETCH) ∧ Exa Z Z.heap wFETCH "com/example/eurybates/eurybates/protocol/ApiKey" ∧ Fld Z Z.heap wFETCH "com/example/eurybates/eurybates/protocol/ApiKey" "oldestVersion" "S" (.int (4 : Int32)) ∧ Fld Z Z.heap wFETCH "com/example/eurybates/eurybates/protocol/ApiKey" "latestVersion" "S" (.int (11 : Int32))) ∧ (Sta Z Z.heap "com/example/eurybates/eurybates/protocol/ApiKey" "LIST_OFFSETS" "Lcom/example/eurybates/eurybates/protocol/ApiKey;" (.ref wLIST_OFFSETS) ∧ Exa Z Z.heap wLIST_OFFSETS "com/example/eurybates/eurybates/protocol/ApiKey" ∧ Fld Z Z.heap wLIST_OFFSETS "com/example/eurybates/eurybates/protocol/ApiKey" "oldestVersion" "S" (.int (1 : Int32)) ∧ Fld Z Z.heap wLIST_OFFSETS "com/example/eurybates/eurybates/protocol/ApiKey" "latestVersion" "S" (.int (2 : Int32))) ∧ (Sta Z Z.heap "com/example/eurybates/eurybates/protocol/ApiKey" "METADATA" "Lcom/example/eurybates/eurybates/protocol/ApiKey;" (.ref wMETADATA) ∧ Exa Z Z.heap wMETADATA "com/example/eurybates/eurybates/protocol/ApiKey" ∧ Fld Z Z.heap wMETADATA "com/example/eurybates/eurybates/protocol/ApiKey" "oldestVersion" "S" (.int (0 : Int32)) ∧ Fld Z Z.heap wMETADATA "com/example/eurybates/eurybates/protocol/ApiKey" "latestVersion" "S" (.int (4 : Int32))) ∧ (Sta Z Z.heap "com/example/eurybates/eurybates/protocol/ApiKey" "OFFSET_COMMIT" "Lcom/example/eurybates/eurybates/protocol/ApiKey;" (.ref wOFFSET_COMMIT) ∧ Exa Z Z.heap wOFFSET_COMMIT "com/example/eurybates/eurybates/protocol/ApiKey" ∧ Fld Z Z.heap wOFFSET_COMMIT "com/example/eurybates/eurybates/protocol/ApiKey" "oldestVersion" "S" (.int (2 : Int32)) ∧ Fld Z Z.heap wOFFSET_COMMIT "com/example/eurybates/eurybates/protocol/ApiKey" "latestVersion" "S" (.int (2 : Int32))) ∧ (Sta Z Z.heap "com/example/eurybates/eurybates/protocol/ApiKey" "OFFSET_FETCH" "Lcom/example/eurybates/eurybates/protocol/ApiKey;" (.ref wOFFSET_FETCH) ∧ Exa Z Z.heap wOFFSET_FETCH "com/example/eurybates/eurybates/protocol/ApiKey" ∧ Fld Z Z.heap wOFFSET_FETCH "com/example/eurybates/eurybates/protocol/ApiKey" "oldestVersion" "S" (.int (1 : Int32)) ∧ Fld Z Z.heap wOFFSET_FETCH "com/example/eurybates/eurybates/protocol/ApiKey" "latestVersion" "S" (.int (5 : Int32))) ∧ (Sta Z Z.heap "com/example/eurybates/eurybates/protocol/ApiKey" "FIND_COORDINATOR" "Lcom/example/eurybates/eurybates/protocol/ApiKey;" (.ref wFIND_COORDINATOR) ∧ Exa Z Z.heap wFIND_COORDINATOR "com/example/eurybates/eurybates/protocol/ApiKey" ∧ Fld Z Z.heap wFIND_COORDINATOR "com/example/eurybates/eurybates/protocol/ApiKey" "oldestVersion" "S" (.int (0 : Int32)) ∧ Fld Z Z.heap wFIND_COORDINATOR "com/example/eurybates/eurybates/protocol/ApiKey" "latestVersion" "S" (.int (0 : Int32))) ∧ (Sta Z Z.heap "com/example/eurybates/eurybates/protocol/ApiKey" "JOIN_GROUP" "Lcom/example/eurybates/eurybates/protocol/ApiKey;" (.ref wJOIN_GROUP) ∧ Exa Z Z.heap wJOIN_GROUP "com/example/eurybates/eurybates/protocol/ApiKey" ∧ Fld Z Z.heap wJOIN_GROUP "com/example/eurybates/eurybates/protocol/ApiKey" "oldestVersion" "S" (.int (2 : Int32)) ∧ Fld Z Z.heap wJOIN_GROUP "com/example/eurybates/eurybates/protocol/ApiKey" "latestVersion" "S" (.int (2 : Int32))) ∧ (Sta Z Z.heap "com/example/eurybates/eurybates/protocol/ApiKey" "HEARTBEAT" "Lcom/example/eurybates/eurybates/protocol/ApiKey;" (.ref wHEARTBEAT) ∧ Exa Z Z.heap wHEARTBEAT "com/example/eurybates/eurybates/protocol/ApiKey" ∧ Fld Z Z.heap wHEARTBEAT "com/example/eurybates/eurybates/protocol/ApiKey" "oldestVersion" "S" (.int (1 : Int32)) ∧ Fld Z Z.heap wHEARTBEAT "com/example/eurybates/eurybates/protocol/ApiKey" "latestVersion" "S" (.int (1 : Int32))) ∧ (Sta Z Z.heap "com/example/eurybates/eurybates/protocol/ApiKey" "LEAVE_GROUP" "Lcom/example/eurybates/eurybates/protocol/ApiKey;" (.ref wLEAVE_GROUP) ∧ Exa Z Z.heap wLEAVE_GROUP "com/example/eurybates/eurybates/protocol/ApiKey" ∧ Fld Z Z.heap wLEAVE_GROUP "com/example/eurybates/eurybates/protocol/ApiKey" "oldestVersion" "S" (.int (1 : Int32)) ∧ Fld Z Z.heap wLEAVE_GROUP "com/example/eurybates/eurybates/protocol/ApiKey" "latestVersion" "S" (.int (1 : Int32))) ∧ (Sta Z Z.heap "com/example/eurybates/eurybates/protocol/ApiKey" "SYNC_GROUP" "Lcom/example/eurybates/eurybates/protocol/ApiKey;" (.ref wSYNC_GROUP) ∧ Exa Z Z.heap wSYNC_GROUP "com/example/eurybates/eurybates/protocol/ApiKey" ∧ Fld Z Z.heap wSYNC_GROUP "com/example/eurybates/eurybates/protocol/ApiKey" "oldestVersion" "S" (.int (1 : Int32)) ∧ Fld Z Z.heap wSYNC_GROUP "com/example/eurybates/eurybates/protocol/ApiKey" "latestVersion" "S" (.int (1 : Int32))) ∧ (Sta Z Z.heap "com/example/eurybates/eurybates/protocol/ApiKey" "DESCRIBE_GROUPS" "Lcom/example/eurybates/eurybates/protocol/ApiKey;" (.ref wDESCRIBE_GROUPS) ∧ Exa Z Z.heap wDESCRIBE_GROUPS "com/example/eurybates/eurybates/protocol/ApiKey" ∧ Fld Z Z.heap wDESCRIBE_GROUPS "com/example/eurybates/eurybates/protocol/ApiKey" "oldestVersion" "S" (.int (0 : Int32)) ∧ Fld Z Z.heap wDESCRIBE_GROUPS "com/example/eurybates/eurybates/protocol/ApiKey" "latestVersion" "S" (.int (4 : Int32))) ∧ (Sta Z Z.heap "com/example/eurybates/eurybates/protocol/ApiKey" "LIST_GROUPS" "Lcom/example/eurybates/eurybates/protocol/ApiKey;" (.ref wLIST_GROUPS) ∧ Exa Z Z.heap wLIST_GROUPS "com/example/eurybates/eurybates/protocol/ApiKey" ∧ Fld Z Z.heap wLIST_GROUPS "com/example/eurybates/eurybates/protocol/ApiKey" "oldestVersion" "S" (.int (0 : Int32)) ∧ Fld Z Z.heap wLIST_GROUPS "com/example/eurybates/eurybates/protocol/ApiKey" "latestVersion" "S" (.int (2 : Int32))) ∧ (Sta Z Z.heap "com/example/eurybates/eurybates/protocol/ApiKey" "API_VERSIONS" "Lcom/example/eurybates/eurybates/protocol/ApiKey;" (.ref wAPI_VERSIONS) ∧ Exa Z Z.heap wAPI_VERSIONS "com/example/eurybates/eurybates/protocol/ApiKey" ∧ Fld Z Z.heap wAPI_VERSIONS "com/example/eurybates/eurybates/protocol/ApiKey" "oldestVersion" "S" (.int (0 : Int32)) ∧ Fld Z Z.heap wAPI_VERSIONS "com/example/eurybates/eurybates/protocol/ApiKey" "latestVersion" "S" (.int (3 : Int32))) ∧ (Sta Z Z.heap "com/example/eurybates/eurybates/protocol/ApiKey" "CREATE_TOPICS" "Lcom/example/eurybates/eurybates/protocol/ApiKey;" (.ref wCREATE_TOPICS) ∧ Exa Z Z.heap wCREATE_TOPICS "com/example/eurybates/eurybates/protocol/ApiKey" ∧ Fld Z Z.heap wCREATE_TOPICS "com/example/eurybates/eurybates/protocol/ApiKey" "oldestVersion" "S" (.int (0 : Int32)) ∧ Fld Z Z.heap wCREATE_TOPICS "com/example/eurybates/eurybates/protocol/ApiKey" "latestVersion" "S" (.int (4 : Int32))) ∧ (Sta Z Z.heap "com/example/eurybates/eurybates/protocol/ApiKey" "DELETE_TOPICS" "Lcom/example/eurybates/eurybates/protocol/ApiKey;" (.ref wDELETE_TOPICS) ∧ Exa Z Z.heap wDELETE_TOPICS "com/example/eurybates/eurybates/protocol/ApiKey" ∧ Fld Z Z.heap wDELETE_TOPICS "com/example/eurybates/eurybates/protocol/ApiKey" "oldestVersion" "S" (.int (0 : Int32)) ∧ Fld Z Z.heap wDELETE_TOPICS "com/example/eurybates/eurybates/protocol/ApiKey" "latestVersion" "S" (.int (3 : Int32))) ∧ (Sta Z Z.heap "com/example/eurybates/eurybates/protocol/ApiKey" "INIT_PRODUCER_ID" "Lcom/example/eurybates/eurybates/protocol/ApiKey;" (.ref wINIT_PRODUCER_ID) ∧ Exa Z Z.heap wINIT_PRODUCER_ID "com/example/eurybates/eurybates/protocol/ApiKey" ∧ Fld Z Z.heap wINIT_PRODUCER_ID "com/example/eurybates/eurybates/protocol/ApiKey" "oldestVersion" "S" (.int (0 : Int32)) ∧ Fld Z Z.heap wINIT_PRODUCER_ID "com/example/eurybates/eurybates/protocol/ApiKey" "latestVersion" "S" (.int (1 : Int32))) ∧ (Sta Z Z.heap "com/example/eurybates/eurybates/protocol/ApiKey" "CREATE_PARTITIONS" "Lcom/example/eurybates/eurybates/protocol/ApiKey;" (.ref wCREATE_PARTITIONS) ∧ Exa Z Z.heap wCREATE_PARTITIONS "com/example/eurybates/eurybates/protocol/ApiKey" ∧ Fld Z Z.heap wCREATE_PARTITIONS "com/example/eurybates/eurybates/protocol/ApiKey" "oldestVersion" "S" (.int (0 : Int32)) ∧ Fld Z Z.heap wCREATE_PARTITIONS "com/example/eurybates/eurybates/protocol/ApiKey" "latestVersion" "S" (.int (1 : Int32)))

theorem pn_0 : plainName "com/example/eurybates/eurybates/protocol/ApiKeyImplementsVersionPinLaw" = true := by first | (simp [plainName, overriddenIn]; done) | decide +kernel
theorem pd_0 : parseMethodDescriptor "(I)Lcom/example/eurybates/eurybates/protocol/ApiKey;" = some ⟨[.int], some (.object "com/example/eurybates/eurybates/protocol/ApiKey")⟩ := by decide +kernel
theorem pd_1 : parseMethodDescriptor "(S)Z" = some ⟨[.short], some .boolean⟩ := by decide +kernel
theorem ef_0 (m : MethodId) (x0 : Int32) (x1 : Int32) : entryFrame m #[(.int x0), (.int x1)] maxLocals = mkF m 0 #[.val (.int x0), .val (.int x1), .unset, .unset, .unset, .unset, .unset, .unset] [] := by first | (simp [entryFrame, mkF, argsToLocals, Value.category, maxLocals]; done) | rfl
def Q0 (Z : State) (p1 : Int32) (p2 : Int32) (wPRODUCE : Addr) (wFETCH : Addr) (wLIST_OFFSETS : Addr) (wMETADATA : Addr) (wOFFSET_COMMIT : Addr) (wOFFSET_FETCH : Addr) (wFIND_COORDINATOR : Addr) (wJOIN_GROUP : Addr) (wHEARTBEAT : Addr) (wLEAVE_GROUP : Addr) (wSYNC_GROUP : Addr) (wDESCRIBE_GROUPS : Addr) (wLIST_GROUPS : Addr) (wAPI_VERSIONS : Addr) (wCREATE_TOPICS : Addr) (wDELETE_TOPICS : Addr) (wINIT_PRODUCER_ID : Addr) (wCREATE_PARTITIONS : Addr) (h0 : Heap) (n0 : Nat) (v : Option Value) (h : Heap) (L : List Loc) : Prop := v = (some (.int 1)) ∧ Fr n0 L
set_option maxRecDepth 65536 in
set_option maxHeartbeats 40000000 in
theorem rm0 (l : Launch) (Z : State) (a0 : Array Value) (hw : ∀ d ∈ tables_1, d.before a0 Z = true) (ws : List Jvm.Cond) (p1 : Int32) (p2 : Int32) (wPRODUCE : Addr) (wFETCH : Addr) (wLIST_OFFSETS : Addr) (wMETADATA : Addr) (wOFFSET_COMMIT : Addr) (wOFFSET_FETCH : Addr) (wFIND_COORDINATOR : Addr) (wJOIN_GROUP : Addr) (wHEARTBEAT : Addr) (wLEAVE_GROUP : Addr) (wSYNC_GROUP : Addr) (wDESCRIBE_GROUPS : Addr) (wLIST_GROUPS : Addr) (wAPI_VERSIONS : Addr) (wCREATE_TOPICS : Addr) (wDELETE_TOPICS : Addr) (wINIT_PRODUCER_ID : Addr) (wCREATE_PARTITIONS : Addr) (h0 : Heap) (n0 : Nat) (Z0 : n0 ≤ h0.size) (O0 : Old Z n0 h0) (HK : (own_All Z wPRODUCE wFETCH wLIST_OFFSETS wMETADATA wOFFSET_COMMIT wOFFSET_FETCH wFIND_COORDINATOR wJOIN_GROUP wHEARTBEAT wLEAVE_GROUP wSYNC_GROUP wDESCRIBE_GROUPS wLIST_GROUPS wAPI_VERSIONS wCREATE_TOPICS wDELETE_TOPICS wINIT_PRODUCER_ID wCREATE_PARTITIONS)) :
    MetFree l x (head1 (Jvm.Cond.code x code maxLocals ret :: ws) room_1) (fun a U => a = #[(.int p1), (.int p2)] ∧ Z.Warmed39 U.vm ∧ U.heap = h0) (fun _ _ _ _ _ => True) (fun _ U o U' => ∃ v L, o = .returned v ∧ Q0 Z p1 p2 wPRODUCE wFETCH wLIST_OFFSETS wMETADATA wOFFSET_COMMIT wOFFSET_FETCH wFIND_COORDINATOR wJOIN_GROUP wHEARTBEAT wLEAVE_GROUP wSYNC_GROUP wDESCRIBE_GROUPS wLIST_GROUPS wAPI_VERSIONS wCREATE_TOPICS wDELETE_TOPICS wINIT_PRODUCER_ID wCREATE_PARTITIONS h0 n0 v U'.heap L ∧ FrameEnd U o U' L 2 36) := by
  refine MetFree.of_bodySF (plainFor_of_name pn_0) hisR ?_
  intro p e s m args below meth c s₁ Bd hml0 hP hK
  obtain ⟨rfl, hZ, hh⟩ := hP
  have hx := Bd.exec
  have hby := Bd.bytes
  have hml : c.maxLocals = 8 := hml0
  have hown0 := findClass_of_methodNamed Bd.named
  have hown : s.vm.findClass "com/example/eurybates/eurybates/protocol/ApiKeyImplementsVersionPinLaw" = some m.cls := hown0
  have hnm := (name_of_methodNamed Bd.named Bd.method).1
  have X0 : Stand p l e room_1 s m #[(.int p1), (.int p2)] below meth c s₁ [] 0 0 := Stand.of_body Bd
  have e0 : s₁.heap = h0 := by rw [← hh, Bd.state]; rfl
  have N0 := Fr.nil n0
  obtain ⟨S0, hS0⟩ : ∃ z, z = s₁.setTop (entryFrame m #[(.int p1), (.int p2)] maxLocals) := ⟨_, rfl⟩
  have pre0 : own_Go p e below S0 (s₁.setTop (mkF m 0 #[.val (.int p1), .val (.int p2), .unset, .unset, .unset, .unset, .unset, .unset] [])) := fun t k => by rw [hS0]; exact castTop (ef_0 m p1 p2) k
  have fin : ∀ t, Steps p.tables e below S0 t → Steps p.tables e below (s₁.setTop (entryFrame m #[(.int p1), (.int p2)] maxLocals)) t := fun t k => by rw [hS0] at k; exact k
  obtain ⟨al, ah, kl, kh, Tj1, lj1, hj1, Xj1, Nj1, ej1, Kj1, qj165, qj166, prej1⟩ : ∃ (al : Addr) (ah : Addr) (kl : ClassId) (kh : ClassId) (Tj1 : State) (lj1 : List Loc) (hj1 : Heap), Stand p l e room_1 s m #[(.int p1), (.int p2)] below meth c Tj1 lj1 2 36 ∧ Fr n0 lj1 ∧ Tj1.heap = hj1 ∧ Keep h0 hj1 [] ∧ Arv Z hj1 al kl .int (18 : Int32) [(.int (3 : Int32)), (.int (4 : Int32)), (.int (1 : Int32)), (.int (0 : Int32)), (.int (2 : Int32)), (.int (1 : Int32)), (.int (0 : Int32)), (.int (2 : Int32)), (.int (1 : Int32)), (.int (1 : Int32)), (.int (1 : Int32)), (.int (0 : Int32)), (.int (0 : Int32)), (.int (0 : Int32)), (.int (0 : Int32)), (.int (0 : Int32)), (.int (0 : Int32)), (.int (0 : Int32))] (.int (0 : Int32)) ∧ Arv Z hj1 ah kh .int (18 : Int32) [(.int (7 : Int32)), (.int (11 : Int32)), (.int (2 : Int32)), (.int (4 : Int32)), (.int (2 : Int32)), (.int (5 : Int32)), (.int (0 : Int32)), (.int (2 : Int32)), (.int (1 : Int32)), (.int (1 : Int32)), (.int (1 : Int32)), (.int (4 : Int32)), (.int (2 : Int32)), (.int (3 : Int32)), (.int (4 : Int32)), (.int (3 : Int32)), (.int (1 : Int32)), (.int (1 : Int32))] (.int (0 : Int32)) ∧ own_Go p e below S0 (Tj1.setTop (mkF m 193 #[.val (.int p1), .val (.int p2), .val (.int ((p1 &&& (2147483647 : Int32)) % (18 : Int32))), .val (.int (p2.toInt16.toInt32)), .val (.ref al), .val (.ref ah), .unset, .unset] [])) := by
    have kjj1 : Keep h0 h0 [] := Keep.refl _ _
    have pre2 : own_Go p e below S0 (s₁.setTop (mkF m 13 #[.val (.int p1), .val (.int p2), .val (.int ((p1 &&& (2147483647 : Int32)) % (18 : Int32))), .val (.int (p2.toInt16.toInt32)), .unset, .unset, .unset, .unset] [(.int (18 : Int32))])) := by
      intro t kt
      refine pre0 t ?_
      refine XS.iloadN X0.here hx rfl (hb hby at_0) rfl ?_
      show Steps p.tables e below (s₁.setTop (mkF m 1 #[.val (.int p1), .val (.int p2), .unset, .unset, .unset, .unset, .unset, .unset] [(.int p1)])) _
      refine X0.ldcInt hx hown (mvT hZ (hw _ (own_w 0 rfl))) (g := (mkF m 1 #[.val (.int p1), .val (.int p2), .unset, .unset, .unset, .unset, .unset, .unset] [(.int p1)])) rfl (hb hby at_1) _ ?_
      show Steps p.tables e below (s₁.setTop (mkF m 3 #[.val (.int p1), .val (.int p2), .unset, .unset, .unset, .unset, .unset, .unset] [(.int (2147483647 : Int32)), (.int p1)])) _
      refine XS.iand X0.here hx rfl (hb hby at_3) rfl ?_
      show Steps p.tables e below (s₁.setTop (mkF m 4 #[.val (.int p1), .val (.int p2), .unset, .unset, .unset, .unset, .unset, .unset] [(.int (p1 &&& (2147483647 : Int32)))])) _
      refine XS.bipush X0.here hx rfl (hb hby at_4) ?_
      show Steps p.tables e below (s₁.setTop (mkF m 6 #[.val (.int p1), .val (.int p2), .unset, .unset, .unset, .unset, .unset, .unset] [(.int (18 : Int32)), (.int (p1 &&& (2147483647 : Int32)))])) _
      refine iremM X0 hx rfl (hb hby at_6) rfl (by decide) ?_
      show Steps p.tables e below (s₁.setTop (mkF m 7 #[.val (.int p1), .val (.int p2), .unset, .unset, .unset, .unset, .unset, .unset] [(.int ((p1 &&& (2147483647 : Int32)) % (18 : Int32)))])) _
      refine XS.istoreN X0.here hx rfl (hb hby at_7) rfl (l' := #[.val (.int p1), .val (.int p2), .val (.int ((p1 &&& (2147483647 : Int32)) % (18 : Int32))), .unset, .unset, .unset, .unset, .unset]) rfl ?_
      show Steps p.tables e below (s₁.setTop (mkF m 8 #[.val (.int p1), .val (.int p2), .val (.int ((p1 &&& (2147483647 : Int32)) % (18 : Int32))), .unset, .unset, .unset, .unset, .unset] [])) _
      refine XS.iloadN X0.here hx rfl (hb hby at_8) rfl ?_
      show Steps p.tables e below (s₁.setTop (mkF m 9 #[.val (.int p1), .val (.int p2), .val (.int ((p1 &&& (2147483647 : Int32)) % (18 : Int32))), .unset, .unset, .unset, .unset, .unset] [(.int p2)])) _
      refine XS.i2s X0.here hx rfl (hb hby at_9) rfl ?_
      show Steps p.tables e below (s₁.setTop (mkF m 10 #[.val (.int p1), .val (.int p2), .val (.int ((p1 &&& (2147483647 : Int32)) % (18 : Int32))), .unset, .unset, .unset, .unset, .unset] [(.int (p2.toInt16.toInt32))])) _
      refine XS.istoreN X0.here hx rfl (hb hby at_10) rfl (l' := #[.val (.int p1), .val (.int p2), .val (.int ((p1 &&& (2147483647 : Int32)) % (18 : Int32))), .val (.int (p2.toInt16.toInt32)), .unset, .unset, .unset, .unset]) rfl ?_
      show Steps p.tables e below (s₁.setTop (mkF m 11 #[.val (.int p1), .val (.int p2), .val (.int ((p1 &&& (2147483647 : Int32)) % (18 : Int32))), .val (.int (p2.toInt16.toInt32)), .unset, .unset, .unset, .unset] [])) _
      refine XS.bipush X0.here hx rfl (hb hby at_11) ?_
      show Steps p.tables e below (s₁.setTop (mkF m 13 #[.val (.int p1), .val (.int p2), .val (.int ((p1 &&& (2147483647 : Int32)) % (18 : Int32))), .val (.int (p2.toInt16.toInt32)), .unset, .unset, .unset, .unset] [(.int (18 : Int32))])) _
      exact kt
    obtain ⟨T3, h3, k3, X3, e3, E3, A3, st3⟩ := newP X0 hx hZ (hw _ (own_w 1 rfl)) e0 (g := (mkF m 13 #[.val (.int p1), .val (.int p2), .val (.int ((p1 &&& (2147483647 : Int32)) % (18 : Int32))), .val (.int (p2.toInt16.toInt32)), .unset, .unset, .unset, .unset] [(.int (18 : Int32))])) rfl (hb hby at_13) rfl (by decide) (cap := 18) (by decide) (by decide) (by decide) (by decide)
    obtain ⟨b3, g3⟩ : ∃ z, z = h0.size := ⟨_, rfl⟩
    rw [← g3] at A3 st3
    have ge4 : n0 ≤ b3 := Nat.le_trans Z0 (Nat.le_of_eq g3.symm)
    have sz5 : h0.size ≤ b3 := Nat.le_trans kjj1.1 (Nat.le_of_eq g3.symm)
    have zs6 : n0 ≤ h3.size := Nat.le_trans Z0 E3.1
    have kc7 : Keep h0 h3 [] := kjj1.ext E3
    have V3 : Arv Z h3 b3 k3 .int (18 : Int32) [(.int (0 : Int32)), (.int (0 : Int32)), (.int (0 : Int32)), (.int (0 : Int32)), (.int (0 : Int32)), (.int (0 : Int32)), (.int (0 : Int32)), (.int (0 : Int32)), (.int (0 : Int32)), (.int (0 : Int32)), (.int (0 : Int32)), (.int (0 : Int32)), (.int (0 : Int32)), (.int (0 : Int32)), (.int (0 : Int32)), (.int (0 : Int32)), (.int (0 : Int32)), (.int (0 : Int32))] (.int (0 : Int32)) := (Arv.new A3 (by decide)).pad (pad_rep [] (.int (0 : Int32)) 18)
    have pre8 : own_Go p e below S0 (T3.setTop (mkF m 18 #[.val (.int p1), .val (.int p2), .val (.int ((p1 &&& (2147483647 : Int32)) % (18 : Int32))), .val (.int (p2.toInt16.toInt32)), .unset, .unset, .unset, .unset] [(.int (3 : Int32)), (.int (0 : Int32)), (.ref b3), (.ref b3)])) := by
      intro t kt
      refine pre2 t ?_
      refine st3 _ ?_
      show Steps p.tables e below (T3.setTop (mkF m 15 #[.val (.int p1), .val (.int p2), .val (.int ((p1 &&& (2147483647 : Int32)) % (18 : Int32))), .val (.int (p2.toInt16.toInt32)), .unset, .unset, .unset, .unset] [(.ref b3)])) _
      refine XS.dup X3.here hx rfl (hb hby at_15) rfl rfl ?_
      show Steps p.tables e below (T3.setTop (mkF m 16 #[.val (.int p1), .val (.int p2), .val (.int ((p1 &&& (2147483647 : Int32)) % (18 : Int32))), .val (.int (p2.toInt16.toInt32)), .unset, .unset, .unset, .unset] [(.ref b3), (.ref b3)])) _
      refine XS.iconst X3.here hx rfl (hb hby at_16) ?_
      show Steps p.tables e below (T3.setTop (mkF m 17 #[.val (.int p1), .val (.int p2), .val (.int ((p1 &&& (2147483647 : Int32)) % (18 : Int32))), .val (.int (p2.toInt16.toInt32)), .unset, .unset, .unset, .unset] [(.int (0 : Int32)), (.ref b3), (.ref b3)])) _
      refine XS.iconst X3.here hx rfl (hb hby at_17) ?_
      show Steps p.tables e below (T3.setTop (mkF m 18 #[.val (.int p1), .val (.int p2), .val (.int ((p1 &&& (2147483647 : Int32)) % (18 : Int32))), .val (.int (p2.toInt16.toInt32)), .unset, .unset, .unset, .unset] [(.int (3 : Int32)), (.int (0 : Int32)), (.ref b3), (.ref b3)])) _
      exact kt
    obtain ⟨cl9, Ar9, q9, Sz9, Ng9, Hs9, Gt9⟩ := id V3
    have hin9 : ¬ ((0 : Int32) < 0 ∨ cl9.slots.size ≤ ((0 : Int32)).toNatClampNeg) := inb_of Sz9 ⟨by decide, by decide⟩
    obtain ⟨T9, h9, X9, e9, W9, st9⟩ := stI X3 hx hZ e3 Ar9 (j := (0 : Int32)) hin9 (g := (mkF m 18 #[.val (.int p1), .val (.int p2), .val (.int ((p1 &&& (2147483647 : Int32)) % (18 : Int32))), .val (.int (p2.toInt16.toInt32)), .unset, .unset, .unset, .unset] [(.int (3 : Int32)), (.int (0 : Int32)), (.ref b3), (.ref b3)])) rfl rfl (hb hby at_18)
    have N9 := Fr.snoc X9 N0 ge4
    have zs10 : n0 ≤ h9.size := Nat.le_trans zs6 (Keep.of_wr W9).1
    have kc11 : Keep h0 h9 [] := kc7.wr W9 (Or.inr sz5)
    have V9 : Arv Z h9 b3 k3 .int (18 : Int32) [(.int (3 : Int32)), (.int (0 : Int32)), (.int (0 : Int32)), (.int (0 : Int32)), (.int (0 : Int32)), (.int (0 : Int32)), (.int (0 : Int32)), (.int (0 : Int32)), (.int (0 : Int32)), (.int (0 : Int32)), (.int (0 : Int32)), (.int (0 : Int32)), (.int (0 : Int32)), (.int (0 : Int32)), (.int (0 : Int32)), (.int (0 : Int32)), (.int (0 : Int32)), (.int (0 : Int32))] (.int (0 : Int32)) := Arv.set Ar9 q9 Sz9 Ng9 Hs9 Gt9 rfl W9 0 rfl (Nat.le_of_ble_eq_true rfl)
    have pre12 : own_Go p e below S0 (T9.setTop (mkF m 22 #[.val (.int p1), .val (.int p2), .val (.int ((p1 &&& (2147483647 : Int32)) % (18 : Int32))), .val (.int (p2.toInt16.toInt32)), .unset, .unset, .unset, .unset] [(.int (4 : Int32)), (.int (1 : Int32)), (.ref b3), (.ref b3)])) := by
      intro t kt
      refine pre8 t ?_
      refine st9 _ ?_
      show Steps p.tables e below (T9.setTop (mkF m 19 #[.val (.int p1), .val (.int p2), .val (.int ((p1 &&& (2147483647 : Int32)) % (18 : Int32))), .val (.int (p2.toInt16.toInt32)), .unset, .unset, .unset, .unset] [(.ref b3)])) _
      refine XS.dup X9.here hx rfl (hb hby at_19) rfl rfl ?_
      show Steps p.tables e below (T9.setTop (mkF m 20 #[.val (.int p1), .val (.int p2), .val (.int ((p1 &&& (2147483647 : Int32)) % (18 : Int32))), .val (.int (p2.toInt16.toInt32)), .unset, .unset, .unset, .unset] [(.ref b3), (.ref b3)])) _
      refine XS.iconst X9.here hx rfl (hb hby at_20) ?_
      show Steps p.tables e below (T9.setTop (mkF m 21 #[.val (.int p1), .val (.int p2), .val (.int ((p1 &&& (2147483647 : Int32)) % (18 : Int32))), .val (.int (p2.toInt16.toInt32)), .unset, .unset, .unset, .unset] [(.int (1 : Int32)), (.ref b3), (.ref b3)])) _
      refine XS.iconst X9.here hx rfl (hb hby at_21) ?_
      show Steps p.tables e below (T9.setTop (mkF m 22 #[.val (.int p1), .val (.int p2), .val (.int ((p1 &&& (2147483647 : Int32)) % (18 : Int32))), .val (.int (p2.toInt16.toInt32)), .unset, .unset, .unset, .unset] [(.int (4 : Int32)), (.int (1 : Int32)), (.ref b3), (.ref b3)])) _
      exact kt
    obtain ⟨cl13, Ar13, q13, Sz13, Ng13, Hs13, Gt13⟩ := id V9
    have hin13 : ¬ ((1 : Int32) < 0 ∨ cl13.slots.size ≤ ((1 : Int32)).toNatClampNeg) := inb_of Sz13 ⟨by decide, by decide⟩
    obtain ⟨T13, h13, X13, e13, W13, st13⟩ := stI X9 hx hZ e9 Ar13 (j := (1 : Int32)) hin13 (g := (mkF m 22 #[.val (.int p1), .val (.int p2), .val (.int ((p1 &&& (2147483647 : Int32)) % (18 : Int32))), .val (.int (p2.toInt16.toInt32)), .unset, .unset, .unset, .unset] [(.int (4 : Int32)), (.int (1 : Int32)), (.ref b3), (.ref b3)])) rfl rfl (hb hby at_22)
    have N13 := Fr.snoc X13 N9 ge4
    have zs14 : n0 ≤ h13.size := Nat.le_trans zs10 (Keep.of_wr W13).1
    have kc15 : Keep h0 h13 [] := kc11.wr W13 (Or.inr sz5)
    have V13 : Arv Z h13 b3 k3 .int (18 : Int32) [(.int (3 : Int32)), (.int (4 : Int32)), (.int (0 : Int32)), (.int (0 : Int32)), (.int (0 : Int32)), (.int (0 : Int32)), (.int (0 : Int32)), (.int (0 : Int32)), (.int (0 : Int32)), (.int (0 : Int32)), (.int (0 : Int32)), (.int (0 : Int32)), (.int (0 : Int32)), (.int (0 : Int32)), (.int (0 : Int32)), (.int (0 : Int32)), (.int (0 : Int32)), (.int (0 : Int32))] (.int (0 : Int32)) := Arv.set Ar13 q13 Sz13 Ng13 Hs13 Gt13 rfl W13 1 rfl (Nat.le_of_ble_eq_true rfl)
    have pre16 : own_Go p e below S0 (T13.setTop (mkF m 26 #[.val (.int p1), .val (.int p2), .val (.int ((p1 &&& (2147483647 : Int32)) % (18 : Int32))), .val (.int (p2.toInt16.toInt32)), .unset, .unset, .unset, .unset] [(.int (1 : Int32)), (.int (2 : Int32)), (.ref b3), (.ref b3)])) := by
      intro t kt
      refine pre12 t ?_
      refine st13 _ ?_
      show Steps p.tables e below (T13.setTop (mkF m 23 #[.val (.int p1), .val (.int p2), .val (.int ((p1 &&& (2147483647 : Int32)) % (18 : Int32))), .val (.int (p2.toInt16.toInt32)), .unset, .unset, .unset, .unset] [(.ref b3)])) _
      refine XS.dup X13.here hx rfl (hb hby at_23) rfl rfl ?_
      show Steps p.tables e below (T13.setTop (mkF m 24 #[.val (.int p1), .val (.int p2), .val (.int ((p1 &&& (2147483647 : Int32)) % (18 : Int32))), .val (.int (p2.toInt16.toInt32)), .unset, .unset, .unset, .unset] [(.ref b3), (.ref b3)])) _
      refine XS.iconst X13.here hx rfl (hb hby at_24) ?_
      show Steps p.tables e below (T13.setTop (mkF m 25 #[.val (.int p1), .val (.int p2), .val (.int ((p1 &&& (2147483647 : Int32)) % (18 : Int32))), .val (.int (p2.toInt16.toInt32)), .unset, .unset, .unset, .unset] [(.int (2 : Int32)), (.ref b3), (.ref b3)])) _
      refine XS.iconst X13.here hx rfl (hb hby at_25) ?_
      show Steps p.tables e below (T13.setTop (mkF m 26 #[.val (.int p1), .val (.int p2), .val (.int ((p1 &&& (2147483647 : Int32)) % (18 : Int32))), .val (.int (p2.toInt16.toInt32)), .unset, .unset, .unset, .unset] [(.int (1 : Int32)), (.int (2 : Int32)), (.ref b3), (.ref b3)])) _
      exact kt
    obtain ⟨cl17, Ar17, q17, Sz17, Ng17, Hs17, Gt17⟩ := id V13
    have hin17 : ¬ ((2 : Int32) < 0 ∨ cl17.slots.size ≤ ((2 : Int32)).toNatClampNeg) := inb_of Sz17 ⟨by decide, by decide⟩
    obtain ⟨T17, h17, X17, e17, W17, st17⟩ := stI X13 hx hZ e13 Ar17 (j := (2 : Int32)) hin17 (g := (mkF m 26 #[.val (.int p1), .val (.int p2), .val (.int ((p1 &&& (2147483647 : Int32)) % (18 : Int32))), .val (.int (p2.toInt16.toInt32)), .unset, .unset, .unset, .unset] [(.int (1 : Int32)), (.int (2 : Int32)), (.ref b3), (.ref b3)])) rfl rfl (hb hby at_26)
    have N17 := Fr.snoc X17 N13 ge4
    have zs18 : n0 ≤ h17.size := Nat.le_trans zs14 (Keep.of_wr W17).1
    have kc19 : Keep h0 h17 [] := kc15.wr W17 (Or.inr sz5)
    have V17 : Arv Z h17 b3 k3 .int (18 : Int32) [(.int (3 : Int32)), (.int (4 : Int32)), (.int (1 : Int32)), (.int (0 : Int32)), (.int (0 : Int32)), (.int (0 : Int32)), (.int (0 : Int32)), (.int (0 : Int32)), (.int (0 : Int32)), (.int (0 : Int32)), (.int (0 : Int32)), (.int (0 : Int32)), (.int (0 : Int32)), (.int (0 : Int32)), (.int (0 : Int32)), (.int (0 : Int32)), (.int (0 : Int32)), (.int (0 : Int32))] (.int (0 : Int32)) := Arv.set Ar17 q17 Sz17 Ng17 Hs17 Gt17 rfl W17 2 rfl (Nat.le_of_ble_eq_true rfl)
    have pre20 : own_Go p e below S0 (T17.setTop (mkF m 30 #[.val (.int p1), .val (.int p2), .val (.int ((p1 &&& (2147483647 : Int32)) % (18 : Int32))), .val (.int (p2.toInt16.toInt32)), .unset, .unset, .unset, .unset] [(.int (0 : Int32)), (.int (3 : Int32)), (.ref b3), (.ref b3)])) := by
      intro t kt
      refine pre16 t ?_
      refine st17 _ ?_
      show Steps p.tables e below (T17.setTop (mkF m 27 #[.val (.int p1), .val (.int p2), .val (.int ((p1 &&& (2147483647 : Int32)) % (18 : Int32))), .val (.int (p2.toInt16.toInt32)), .unset, .unset, .unset, .unset] [(.ref b3)])) _
      refine XS.dup X17.here hx rfl (hb hby at_27) rfl rfl ?_
      show Steps p.tables e below (T17.setTop (mkF m 28 #[.val (.int p1), .val (.int p2), .val (.int ((p1 &&& (2147483647 : Int32)) % (18 : Int32))), .val (.int (p2.toInt16.toInt32)), .unset, .unset, .unset, .unset] [(.ref b3), (.ref b3)])) _
      refine XS.iconst X17.here hx rfl (hb hby at_28) ?_
      show Steps p.tables e below (T17.setTop (mkF m 29 #[.val (.int p1), .val (.int p2), .val (.int ((p1 &&& (2147483647 : Int32)) % (18 : Int32))), .val (.int (p2.toInt16.toInt32)), .unset, .unset, .unset, .unset] [(.int (3 : Int32)), (.ref b3), (.ref b3)])) _
      refine XS.iconst X17.here hx rfl (hb hby at_29) ?_
      show Steps p.tables e below (T17.setTop (mkF m 30 #[.val (.int p1), .val (.int p2), .val (.int ((p1 &&& (2147483647 : Int32)) % (18 : Int32))), .val (.int (p2.toInt16.toInt32)), .unset, .unset, .unset, .unset] [(.int (0 : Int32)), (.int (3 : Int32)), (.ref b3), (.ref b3)])) _
      exact kt
    obtain ⟨cl21, Ar21, q21, Sz21, Ng21, Hs21, Gt21⟩ := id V17
    have hin21 : ¬ ((3 : Int32) < 0 ∨ cl21.slots.size ≤ ((3 : Int32)).toNatClampNeg) := inb_of Sz21 ⟨by decide, by decide⟩
    obtain ⟨T21, h21, X21, e21, W21, st21⟩ := stI X17 hx hZ e17 Ar21 (j := (3 : Int32)) hin21 (g := (mkF m 30 #[.val (.int p1), .val (.int p2), .val (.int ((p1 &&& (2147483647 : Int32)) % (18 : Int32))), .val (.int (p2.toInt16.toInt32)), .unset, .unset, .unset, .unset] [(.int (0 : Int32)), (.int (3 : Int32)), (.ref b3), (.ref b3)])) rfl rfl (hb hby at_30)
    have N21 := Fr.snoc X21 N17 ge4
    have zs22 : n0 ≤ h21.size := Nat.le_trans zs18 (Keep.of_wr W21).1
    have kc23 : Keep h0 h21 [] := kc19.wr W21 (Or.inr sz5)
    have V21 : Arv Z h21 b3 k3 .int (18 : Int32) [(.int (3 : Int32)), (.int (4 : Int32)), (.int (1 : Int32)), (.int (0 : Int32)), (.int (0 : Int32)), (.int (0 : Int32)), (.int (0 : Int32)), (.int (0 : Int32)), (.int (0 : Int32)), (.int (0 : Int32)), (.int (0 : Int32)), (.int (0 : Int32)), (.int (0 : Int32)), (.int (0 : Int32)), (.int (0 : Int32)), (.int (0 : Int32)), (.int (0 : Int32)), (.int (0 : Int32))] (.int (0 : Int32)) := Arv.set Ar21 q21 Sz21 Ng21 Hs21 Gt21 rfl W21 3 rfl (Nat.le_of_ble_eq_true rfl)
    have pre24 : own_Go p e below S0 (T21.setTop (mkF m 34 #[.val (.int p1), .val (.int p2), .val (.int ((p1 &&& (2147483647 : Int32)) % (18 : Int32))), .val (.int (p2.toInt16.toInt32)), .unset, .unset, .unset, .unset] [(.int (2 : Int32)), (.int (4 : Int32)), (.ref b3), (.ref b3)])) := by
      intro t kt
      refine pre20 t ?_
      refine st21 _ ?_
      show Steps p.tables e below (T21.setTop (mkF m 31 #[.val (.int p1), .val (.int p2), .val (.int ((p1 &&& (2147483647 : Int32)) % (18 : Int32))), .val (.int (p2.toInt16.toInt32)), .unset, .unset, .unset, .unset] [(.ref b3)])) _
      refine XS.dup X21.here hx rfl (hb hby at_31) rfl rfl ?_
      show Steps p.tables e below (T21.setTop (mkF m 32 #[.val (.int p1), .val (.int p2), .val (.int ((p1 &&& (2147483647 : Int32)) % (18 : Int32))), .val (.int (p2.toInt16.toInt32)), .unset, .unset, .unset, .unset] [(.ref b3), (.ref b3)])) _
      refine XS.iconst X21.here hx rfl (hb hby at_32) ?_
      show Steps p.tables e below (T21.setTop (mkF m 33 #[.val (.int p1), .val (.int p2), .val (.int ((p1 &&& (2147483647 : Int32)) % (18 : Int32))), .val (.int (p2.toInt16.toInt32)), .unset, .unset, .unset, .unset] [(.int (4 : Int32)), (.ref b3), (.ref b3)])) _
      refine XS.iconst X21.here hx rfl (hb hby at_33) ?_
      show Steps p.tables e below (T21.setTop (mkF m 34 #[.val (.int p1), .val (.int p2), .val (.int ((p1 &&& (2147483647 : Int32)) % (18 : Int32))), .val (.int (p2.toInt16.toInt32)), .unset, .unset, .unset, .unset] [(.int (2 : Int32)), (.int (4 : Int32)), (.ref b3), (.ref b3)])) _
      exact kt
    obtain ⟨cl25, Ar25, q25, Sz25, Ng25, Hs25, Gt25⟩ := id V21
    have hin25 : ¬ ((4 : Int32) < 0 ∨ cl25.slots.size ≤ ((4 : Int32)).toNatClampNeg) := inb_of Sz25 ⟨by decide, by decide⟩
    obtain ⟨T25, h25, X25, e25, W25, st25⟩ := stI X21 hx hZ e21 Ar25 (j := (4 : Int32)) hin25 (g := (mkF m 34 #[.val (.int p1), .val (.int p2), .val (.int ((p1 &&& (2147483647 : Int32)) % (18 : Int32))), .val (.int (p2.toInt16.toInt32)), .unset, .unset, .unset, .unset] [(.int (2 : Int32)), (.int (4 : Int32)), (.ref b3), (.ref b3)])) rfl rfl (hb hby at_34)
    have N25 := Fr.snoc X25 N21 ge4
    have zs26 : n0 ≤ h25.size := Nat.le_trans zs22 (Keep.of_wr W25).1
    have kc27 : Keep h0 h25 [] := kc23.wr W25 (Or.inr sz5)
    have V25 : Arv Z h25 b3 k3 .int (18 : Int32) [(.int (3 : Int32)), (.int (4 : Int32)), (.int (1 : Int32)), (.int (0 : Int32)), (.int (2 : Int32)), (.int (0 : Int32)), (.int (0 : Int32)), (.int (0 : Int32)), (.int (0 : Int32)), (.int (0 : Int32)), (.int (0 : Int32)), (.int (0 : Int32)), (.int (0 : Int32)), (.int (0 : Int32)), (.int (0 : Int32)), (.int (0 : Int32)), (.int (0 : Int32)), (.int (0 : Int32))] (.int (0 : Int32)) := Arv.set Ar25 q25 Sz25 Ng25 Hs25 Gt25 rfl W25 4 rfl (Nat.le_of_ble_eq_true rfl)
    have pre28 : own_Go p e below S0 (T25.setTop (mkF m 38 #[.val (.int p1), .val (.int p2), .val (.int ((p1 &&& (2147483647 : Int32)) % (18 : Int32))), .val (.int (p2.toInt16.toInt32)), .unset, .unset, .unset, .unset] [(.int (1 : Int32)), (.int (5 : Int32)), (.ref b3), (.ref b3)])) := by
      intro t kt
      refine pre24 t ?_
      refine st25 _ ?_
      show Steps p.tables e below (T25.setTop (mkF m 35 #[.val (.int p1), .val (.int p2), .val (.int ((p1 &&& (2147483647 : Int32)) % (18 : Int32))), .val (.int (p2.toInt16.toInt32)), .unset, .unset, .unset, .unset] [(.ref b3)])) _
      refine XS.dup X25.here hx rfl (hb hby at_35) rfl rfl ?_
      show Steps p.tables e below (T25.setTop (mkF m 36 #[.val (.int p1), .val (.int p2), .val (.int ((p1 &&& (2147483647 : Int32)) % (18 : Int32))), .val (.int (p2.toInt16.toInt32)), .unset, .unset, .unset, .unset] [(.ref b3), (.ref b3)])) _
      refine XS.iconst X25.here hx rfl (hb hby at_36) ?_
      show Steps p.tables e below (T25.setTop (mkF m 37 #[.val (.int p1), .val (.int p2), .val (.int ((p1 &&& (2147483647 : Int32)) % (18 : Int32))), .val (.int (p2.toInt16.toInt32)), .unset, .unset, .unset, .unset] [(.int (5 : Int32)), (.ref b3), (.ref b3)])) _
      refine XS.iconst X25.here hx rfl (hb hby at_37) ?_
      show Steps p.tables e below (T25.setTop (mkF m 38 #[.val (.int p1), .val (.int p2), .val (.int ((p1 &&& (2147483647 : Int32)) % (18 : Int32))), .val (.int (p2.toInt16.toInt32)), .unset, .unset, .unset, .unset] [(.int (1 : Int32)), (.int (5 : Int32)), (.ref b3), (.ref b3)])) _
      exact kt
    obtain ⟨cl29, Ar29, q29, Sz29, Ng29, Hs29, Gt29⟩ := id V25
    have hin29 : ¬ ((5 : Int32) < 0 ∨ cl29.slots.size ≤ ((5 : Int32)).toNatClampNeg) := inb_of Sz29 ⟨by decide, by decide⟩
    obtain ⟨T29, h29, X29, e29, W29, st29⟩ := stI X25 hx hZ e25 Ar29 (j := (5 : Int32)) hin29 (g := (mkF m 38 #[.val (.int p1), .val (.int p2), .val (.int ((p1 &&& (2147483647 : Int32)) % (18 : Int32))), .val (.int (p2.toInt16.toInt32)), .unset, .unset, .unset, .unset] [(.int (1 : Int32)), (.int (5 : Int32)), (.ref b3), (.ref b3)])) rfl rfl (hb hby at_38)
    have N29 := Fr.snoc X29 N25 ge4
    have zs30 : n0 ≤ h29.size := Nat.le_trans zs26 (Keep.of_wr W29).1
    have kc31 : Keep h0 h29 [] := kc27.wr W29 (Or.inr sz5)
    have V29 : Arv Z h29 b3 k3 .int (18 : Int32) [(.int (3 : Int32)), (.int (4 : Int32)), (.int (1 : Int32)), (.int (0 : Int32)), (.int (2 : Int32)), (.int (1 : Int32)), (.int (0 : Int32)), (.int (0 : Int32)), (.int (0 : Int32)), (.int (0 : Int32)), (.int (0 : Int32)), (.int (0 : Int32)), (.int (0 : Int32)), (.int (0 : Int32)), (.int (0 : Int32)), (.int (0 : Int32)), (.int (0 : Int32)), (.int (0 : Int32))] (.int (0 : Int32)) := Arv.set Ar29 q29 Sz29 Ng29 Hs29 Gt29 rfl W29 5 rfl (Nat.le_of_ble_eq_true rfl)
    have pre32 : own_Go p e below S0 (T29.setTop (mkF m 43 #[.val (.int p1), .val (.int p2), .val (.int ((p1 &&& (2147483647 : Int32)) % (18 : Int32))), .val (.int (p2.toInt16.toInt32)), .unset, .unset, .unset, .unset] [(.int (0 : Int32)), (.int (6 : Int32)), (.ref b3), (.ref b3)])) := by
      intro t kt
      refine pre28 t ?_
      refine st29 _ ?_
      show Steps p.tables e below (T29.setTop (mkF m 39 #[.val (.int p1), .val (.int p2), .val (.int ((p1 &&& (2147483647 : Int32)) % (18 : Int32))), .val (.int (p2.toInt16.toInt32)), .unset, .unset, .unset, .unset] [(.ref b3)])) _
      refine XS.dup X29.here hx rfl (hb hby at_39) rfl rfl ?_
      show Steps p.tables e below (T29.setTop (mkF m 40 #[.val (.int p1), .val (.int p2), .val (.int ((p1 &&& (2147483647 : Int32)) % (18 : Int32))), .val (.int (p2.toInt16.toInt32)), .unset, .unset, .unset, .unset] [(.ref b3), (.ref b3)])) _
      refine XS.bipush X29.here hx rfl (hb hby at_40) ?_
      show Steps p.tables e below (T29.setTop (mkF m 42 #[.val (.int p1), .val (.int p2), .val (.int ((p1 &&& (2147483647 : Int32)) % (18 : Int32))), .val (.int (p2.toInt16.toInt32)), .unset, .unset, .unset, .unset] [(.int (6 : Int32)), (.ref b3), (.ref b3)])) _
      refine XS.iconst X29.here hx rfl (hb hby at_42) ?_
      show Steps p.tables e below (T29.setTop (mkF m 43 #[.val (.int p1), .val (.int p2), .val (.int ((p1 &&& (2147483647 : Int32)) % (18 : Int32))), .val (.int (p2.toInt16.toInt32)), .unset, .unset, .unset, .unset] [(.int (0 : Int32)), (.int (6 : Int32)), (.ref b3), (.ref b3)])) _
      exact kt
    obtain ⟨cl33, Ar33, q33, Sz33, Ng33, Hs33, Gt33⟩ := id V29
    have hin33 : ¬ ((6 : Int32) < 0 ∨ cl33.slots.size ≤ ((6 : Int32)).toNatClampNeg) := inb_of Sz33 ⟨by decide, by decide⟩
    obtain ⟨T33, h33, X33, e33, W33, st33⟩ := stI X29 hx hZ e29 Ar33 (j := (6 : Int32)) hin33 (g := (mkF m 43 #[.val (.int p1), .val (.int p2), .val (.int ((p1 &&& (2147483647 : Int32)) % (18 : Int32))), .val (.int (p2.toInt16.toInt32)), .unset, .unset, .unset, .unset] [(.int (0 : Int32)), (.int (6 : Int32)), (.ref b3), (.ref b3)])) rfl rfl (hb hby at_43)
    have N33 := Fr.snoc X33 N29 ge4
    have zs34 : n0 ≤ h33.size := Nat.le_trans zs30 (Keep.of_wr W33).1
    have kc35 : Keep h0 h33 [] := kc31.wr W33 (Or.inr sz5)
    have V33 : Arv Z h33 b3 k3 .int (18 : Int32) [(.int (3 : Int32)), (.int (4 : Int32)), (.int (1 : Int32)), (.int (0 : Int32)), (.int (2 : Int32)), (.int (1 : Int32)), (.int (0 : Int32)), (.int (0 : Int32)), (.int (0 : Int32)), (.int (0 : Int32)), (.int (0 : Int32)), (.int (0 : Int32)), (.int (0 : Int32)), (.int (0 : Int32)), (.int (0 : Int32)), (.int (0 : Int32)), (.int (0 : Int32)), (.int (0 : Int32))] (.int (0 : Int32)) := Arv.set Ar33 q33 Sz33 Ng33 Hs33 Gt33 rfl W33 6 rfl (Nat.le_of_ble_eq_true rfl)
    have pre36 : own_Go p e below S0 (T33.setTop (mkF m 48 #[.val (.int p1), .val (.int p2), .val (.int ((p1 &&& (2147483647 : Int32)) % (18 : Int32))), .val (.int (p2.toInt16.toInt32)), .unset, .unset, .unset, .unset] [(.int (2 : Int32)), (.int (7 : Int32)), (.ref b3), (.ref b3)])) := by
      intro t kt
      refine pre32 t ?_
      refine st33 _ ?_
      show Steps p.tables e below (T33.setTop (mkF m 44 #[.val (.int p1), .val (.int p2), .val (.int ((p1 &&& (2147483647 : Int32)) % (18 : Int32))), .val (.int (p2.toInt16.toInt32)), .unset, .unset, .unset, .unset] [(.ref b3)])) _
      refine XS.dup X33.here hx rfl (hb hby at_44) rfl rfl ?_
      show Steps p.tables e below (T33.setTop (mkF m 45 #[.val (.int p1), .val (.int p2), .val (.int ((p1 &&& (2147483647 : Int32)) % (18 : Int32))), .val (.int (p2.toInt16.toInt32)), .unset, .unset, .unset, .unset] [(.ref b3), (.ref b3)])) _
      refine XS.bipush X33.here hx rfl (hb hby at_45) ?_
      show Steps p.tables e below (T33.setTop (mkF m 47 #[.val (.int p1), .val (.int p2), .val (.int ((p1 &&& (2147483647 : Int32)) % (18 : Int32))), .val (.int (p2.toInt16.toInt32)), .unset, .unset, .unset, .unset] [(.int (7 : Int32)), (.ref b3), (.ref b3)])) _
      refine XS.iconst X33.here hx rfl (hb hby at_47) ?_
      show Steps p.tables e below (T33.setTop (mkF m 48 #[.val (.int p1), .val (.int p2), .val (.int ((p1 &&& (2147483647 : Int32)) % (18 : Int32))), .val (.int (p2.toInt16.toInt32)), .unset, .unset, .unset, .unset] [(.int (2 : Int32)), (.int (7 : Int32)), (.ref b3), (.ref b3)])) _
      exact kt
    obtain ⟨cl37, Ar37, q37, Sz37, Ng37, Hs37, Gt37⟩ := id V33
    have hin37 : ¬ ((7 : Int32) < 0 ∨ cl37.slots.size ≤ ((7 : Int32)).toNatClampNeg) := inb_of Sz37 ⟨by decide, by decide⟩
    obtain ⟨T37, h37, X37, e37, W37, st37⟩ := stI X33 hx hZ e33 Ar37 (j := (7 : Int32)) hin37 (g := (mkF m 48 #[.val (.int p1), .val (.int p2), .val (.int ((p1 &&& (2147483647 : Int32)) % (18 : Int32))), .val (.int (p2.toInt16.toInt32)), .unset, .unset, .unset, .unset] [(.int (2 : Int32)), (.int (7 : Int32)), (.ref b3), (.ref b3)])) rfl rfl (hb hby at_48)
    have N37 := Fr.snoc X37 N33 ge4
    have zs38 : n0 ≤ h37.size := Nat.le_trans zs34 (Keep.of_wr W37).1
    have kc39 : Keep h0 h37 [] := kc35.wr W37 (Or.inr sz5)
    have V37 : Arv Z h37 b3 k3 .int (18 : Int32) [(.int (3 : Int32)), (.int (4 : Int32)), (.int (1 : Int32)), (.int (0 : Int32)), (.int (2 : Int32)), (.int (1 : Int32)), (.int (0 : Int32)), (.int (2 : Int32)), (.int (0 : Int32)), (.int (0 : Int32)), (.int (0 : Int32)), (.int (0 : Int32)), (.int (0 : Int32)), (.int (0 : Int32)), (.int (0 : Int32)), (.int (0 : Int32)), (.int (0 : Int32)), (.int (0 : Int32))] (.int (0 : Int32)) := Arv.set Ar37 q37 Sz37 Ng37 Hs37 Gt37 rfl W37 7 rfl (Nat.le_of_ble_eq_true rfl)
    have pre40 : own_Go p e below S0 (T37.setTop (mkF m 53 #[.val (.int p1), .val (.int p2), .val (.int ((p1 &&& (2147483647 : Int32)) % (18 : Int32))), .val (.int (p2.toInt16.toInt32)), .unset, .unset, .unset, .unset] [(.int (1 : Int32)), (.int (8 : Int32)), (.ref b3), (.ref b3)])) := by
      intro t kt
      refine pre36 t ?_
      refine st37 _ ?_
      show Steps p.tables e below (T37.setTop (mkF m 49 #[.val (.int p1), .val (.int p2), .val (.int ((p1 &&& (2147483647 : Int32)) % (18 : Int32))), .val (.int (p2.toInt16.toInt32)), .unset, .unset, .unset, .unset] [(.ref b3)])) _
      refine XS.dup X37.here hx rfl (hb hby at_49) rfl rfl ?_
      show Steps p.tables e below (T37.setTop (mkF m 50 #[.val (.int p1), .val (.int p2), .val (.int ((p1 &&& (2147483647 : Int32)) % (18 : Int32))), .val (.int (p2.toInt16.toInt32)), .unset, .unset, .unset, .unset] [(.ref b3), (.ref b3)])) _
      refine XS.bipush X37.here hx rfl (hb hby at_50) ?_
      show Steps p.tables e below (T37.setTop (mkF m 52 #[.val (.int p1), .val (.int p2), .val (.int ((p1 &&& (2147483647 : Int32)) % (18 : Int32))), .val (.int (p2.toInt16.toInt32)), .unset, .unset, .unset, .unset] [(.int (8 : Int32)), (.ref b3), (.ref b3)])) _
      refine XS.iconst X37.here hx rfl (hb hby at_52) ?_
      show Steps p.tables e below (T37.setTop (mkF m 53 #[.val (.int p1), .val (.int p2), .val (.int ((p1 &&& (2147483647 : Int32)) % (18 : Int32))), .val (.int (p2.toInt16.toInt32)), .unset, .unset, .unset, .unset] [(.int (1 : Int32)), (.int (8 : Int32)), (.ref b3), (.ref b3)])) _
      exact kt
    obtain ⟨cl41, Ar41, q41, Sz41, Ng41, Hs41, Gt41⟩ := id V37
    have hin41 : ¬ ((8 : Int32) < 0 ∨ cl41.slots.size ≤ ((8 : Int32)).toNatClampNeg) := inb_of Sz41 ⟨by decide, by decide⟩
    obtain ⟨T41, h41, X41, e41, W41, st41⟩ := stI X37 hx hZ e37 Ar41 (j := (8 : Int32)) hin41 (g := (mkF m 53 #[.val (.int p1), .val (.int p2), .val (.int ((p1 &&& (2147483647 : Int32)) % (18 : Int32))), .val (.int (p2.toInt16.toInt32)), .unset, .unset, .unset, .unset] [(.int (1 : Int32)), (.int (8 : Int32)), (.ref b3), (.ref b3)])) rfl rfl (hb hby at_53)
    have N41 := Fr.snoc X41 N37 ge4
    have zs42 : n0 ≤ h41.size := Nat.le_trans zs38 (Keep.of_wr W41).1
    have kc43 : Keep h0 h41 [] := kc39.wr W41 (Or.inr sz5)
    have V41 : Arv Z h41 b3 k3 .int (18 : Int32) [(.int (3 : Int32)), (.int (4 : Int32)), (.int (1 : Int32)), (.int (0 : Int32)), (.int (2 : Int32)), (.int (1 : Int32)), (.int (0 : Int32)), (.int (2 : Int32)), (.int (1 : Int32)), (.int (0 : Int32)), (.int (0 : Int32)), (.int (0 : Int32)), (.int (0 : Int32)), (.int (0 : Int32)), (.int (0 : Int32)), (.int (0 : Int32)), (.int (0 : Int32)), (.int (0 : Int32))] (.int (0 : Int32)) := Arv.set Ar41 q41 Sz41 Ng41 Hs41 Gt41 rfl W41 8 rfl (Nat.le_of_ble_eq_true rfl)
    have pre44 : own_Go p e below S0 (T41.setTop (mkF m 58 #[.val (.int p1), .val (.int p2), .val (.int ((p1 &&& (2147483647 : Int32)) % (18 : Int32))), .val (.int (p2.toInt16.toInt32)), .unset, .unset, .unset, .unset] [(.int (1 : Int32)), (.int (9 : Int32)), (.ref b3), (.ref b3)])) := by
      intro t kt
      refine pre40 t ?_
      refine st41 _ ?_
      show Steps p.tables e below (T41.setTop (mkF m 54 #[.val (.int p1), .val (.int p2), .val (.int ((p1 &&& (2147483647 : Int32)) % (18 : Int32))), .val (.int (p2.toInt16.toInt32)), .unset, .unset, .unset, .unset] [(.ref b3)])) _
      refine XS.dup X41.here hx rfl (hb hby at_54) rfl rfl ?_
      show Steps p.tables e below (T41.setTop (mkF m 55 #[.val (.int p1), .val (.int p2), .val (.int ((p1 &&& (2147483647 : Int32)) % (18 : Int32))), .val (.int (p2.toInt16.toInt32)), .unset, .unset, .unset, .unset] [(.ref b3), (.ref b3)])) _
      refine XS.bipush X41.here hx rfl (hb hby at_55) ?_
      show Steps p.tables e below (T41.setTop (mkF m 57 #[.val (.int p1), .val (.int p2), .val (.int ((p1 &&& (2147483647 : Int32)) % (18 : Int32))), .val (.int (p2.toInt16.toInt32)), .unset, .unset, .unset, .unset] [(.int (9 : Int32)), (.ref b3), (.ref b3)])) _
      refine XS.iconst X41.here hx rfl (hb hby at_57) ?_
      show Steps p.tables e below (T41.setTop (mkF m 58 #[.val (.int p1), .val (.int p2), .val (.int ((p1 &&& (2147483647 : Int32)) % (18 : Int32))), .val (.int (p2.toInt16.toInt32)), .unset, .unset, .unset, .unset] [(.int (1 : Int32)), (.int (9 : Int32)), (.ref b3), (.ref b3)])) _
      exact kt
    obtain ⟨cl45, Ar45, q45, Sz45, Ng45, Hs45, Gt45⟩ := id V41
    have hin45 : ¬ ((9 : Int32) < 0 ∨ cl45.slots.size ≤ ((9 : Int32)).toNatClampNeg) := inb_of Sz45 ⟨by decide, by decide⟩
    obtain ⟨T45, h45, X45, e45, W45, st45⟩ := stI X41 hx hZ e41 Ar45 (j := (9 : Int32)) hin45 (g := (mkF m 58 #[.val (.int p1), .val (.int p2), .val (.int ((p1 &&& (2147483647 : Int32)) % (18 : Int32))), .val (.int (p2.toInt16.toInt32)), .unset, .unset, .unset, .unset] [(.int (1 : Int32)), (.int (9 : Int32)), (.ref b3), (.ref b3)])) rfl rfl (hb hby at_58)
    have N45 := Fr.snoc X45 N41 ge4
    have zs46 : n0 ≤ h45.size := Nat.le_trans zs42 (Keep.of_wr W45).1
    have kc47 : Keep h0 h45 [] := kc43.wr W45 (Or.inr sz5)
    have V45 : Arv Z h45 b3 k3 .int (18 : Int32) [(.int (3 : Int32)), (.int (4 : Int32)), (.int (1 : Int32)), (.int (0 : Int32)), (.int (2 : Int32)), (.int (1 : Int32)), (.int (0 : Int32)), (.int (2 : Int32)), (.int (1 : Int32)), (.int (1 : Int32)), (.int (0 : Int32)), (.int (0 : Int32)), (.int (0 : Int32)), (.int (0 : Int32)), (.int (0 : Int32)), (.int (0 : Int32)), (.int (0 : Int32)), (.int (0 : Int32))] (.int (0 : Int32)) := Arv.set Ar45 q45 Sz45 Ng45 Hs45 Gt45 rfl W45 9 rfl (Nat.le_of_ble_eq_true rfl)
    have pre48 : own_Go p e below S0 (T45.setTop (mkF m 63 #[.val (.int p1), .val (.int p2), .val (.int ((p1 &&& (2147483647 : Int32)) % (18 : Int32))), .val (.int (p2.toInt16.toInt32)), .unset, .unset, .unset, .unset] [(.int (1 : Int32)), (.int (10 : Int32)), (.ref b3), (.ref b3)])) := by
      intro t kt
      refine pre44 t ?_
      refine st45 _ ?_
      show Steps p.tables e below (T45.setTop (mkF m 59 #[.val (.int p1), .val (.int p2), .val (.int ((p1 &&& (2147483647 : Int32)) % (18 : Int32))), .val (.int (p2.toInt16.toInt32)), .unset, .unset, .unset, .unset] [(.ref b3)])) _
      refine XS.dup X45.here hx rfl (hb hby at_59) rfl rfl ?_
      show Steps p.tables e below (T45.setTop (mkF m 60 #[.val (.int p1), .val (.int p2), .val (.int ((p1 &&& (2147483647 : Int32)) % (18 : Int32))), .val (.int (p2.toInt16.toInt32)), .unset, .unset, .unset, .unset] [(.ref b3), (.ref b3)])) _
      refine XS.bipush X45.here hx rfl (hb hby at_60) ?_
      show Steps p.tables e below (T45.setTop (mkF m 62 #[.val (.int p1), .val (.int p2), .val (.int ((p1 &&& (2147483647 : Int32)) % (18 : Int32))), .val (.int (p2.toInt16.toInt32)), .unset, .unset, .unset, .unset] [(.int (10 : Int32)), (.ref b3), (.ref b3)])) _
      refine XS.iconst X45.here hx rfl (hb hby at_62) ?_
      show Steps p.tables e below (T45.setTop (mkF m 63 #[.val (.int p1), .val (.int p2), .val (.int ((p1 &&& (2147483647 : Int32)) % (18 : Int32))), .val (.int (p2.toInt16.toInt32)), .unset, .unset, .unset, .unset] [(.int (1 : Int32)), (.int (10 : Int32)), (.ref b3), (.ref b3)])) _
      exact kt
    obtain ⟨cl49, Ar49, q49, Sz49, Ng49, Hs49, Gt49⟩ := id V45
    have hin49 : ¬ ((10 : Int32) < 0 ∨ cl49.slots.size ≤ ((10 : Int32)).toNatClampNeg) := inb_of Sz49 ⟨by decide, by decide⟩
    obtain ⟨T49, h49, X49, e49, W49, st49⟩ := stI X45 hx hZ e45 Ar49 (j := (10 : Int32)) hin49 (g := (mkF m 63 #[.val (.int p1), .val (.int p2), .val (.int ((p1 &&& (2147483647 : Int32)) % (18 : Int32))), .val (.int (p2.toInt16.toInt32)), .unset, .unset, .unset, .unset] [(.int (1 : Int32)), (.int (10 : Int32)), (.ref b3), (.ref b3)])) rfl rfl (hb hby at_63)
    have N49 := Fr.snoc X49 N45 ge4
    have zs50 : n0 ≤ h49.size := Nat.le_trans zs46 (Keep.of_wr W49).1
    have kc51 : Keep h0 h49 [] := kc47.wr W49 (Or.inr sz5)
    have V49 : Arv Z h49 b3 k3 .int (18 : Int32) [(.int (3 : Int32)), (.int (4 : Int32)), (.int (1 : Int32)), (.int (0 : Int32)), (.int (2 : Int32)), (.int (1 : Int32)), (.int (0 : Int32)), (.int (2 : Int32)), (.int (1 : Int32)), (.int (1 : Int32)), (.int (1 : Int32)), (.int (0 : Int32)), (.int (0 : Int32)), (.int (0 : Int32)), (.int (0 : Int32)), (.int (0 : Int32)), (.int (0 : Int32)), (.int (0 : Int32))] (.int (0 : Int32)) := Arv.set Ar49 q49 Sz49 Ng49 Hs49 Gt49 rfl W49 10 rfl (Nat.le_of_ble_eq_true rfl)
    have pre52 : own_Go p e below S0 (T49.setTop (mkF m 68 #[.val (.int p1), .val (.int p2), .val (.int ((p1 &&& (2147483647 : Int32)) % (18 : Int32))), .val (.int (p2.toInt16.toInt32)), .unset, .unset, .unset, .unset] [(.int (0 : Int32)), (.int (11 : Int32)), (.ref b3), (.ref b3)])) := by
      intro t kt
      refine pre48 t ?_
      refine st49 _ ?_
      show Steps p.tables e below (T49.setTop (mkF m 64 #[.val (.int p1), .val (.int p2), .val (.int ((p1 &&& (2147483647 : Int32)) % (18 : Int32))), .val (.int (p2.toInt16.toInt32)), .unset, .unset, .unset, .unset] [(.ref b3)])) _
      refine XS.dup X49.here hx rfl (hb hby at_64) rfl rfl ?_
      show Steps p.tables e below (T49.setTop (mkF m 65 #[.val (.int p1), .val (.int p2), .val (.int ((p1 &&& (2147483647 : Int32)) % (18 : Int32))), .val (.int (p2.toInt16.toInt32)), .unset, .unset, .unset, .unset] [(.ref b3), (.ref b3)])) _
      refine XS.bipush X49.here hx rfl (hb hby at_65) ?_
      show Steps p.tables e below (T49.setTop (mkF m 67 #[.val (.int p1), .val (.int p2), .val (.int ((p1 &&& (2147483647 : Int32)) % (18 : Int32))), .val (.int (p2.toInt16.toInt32)), .unset, .unset, .unset, .unset] [(.int (11 : Int32)), (.ref b3), (.ref b3)])) _
      refine XS.iconst X49.here hx rfl (hb hby at_67) ?_
      show Steps p.tables e below (T49.setTop (mkF m 68 #[.val (.int p1), .val (.int p2), .val (.int ((p1 &&& (2147483647 : Int32)) % (18 : Int32))), .val (.int (p2.toInt16.toInt32)), .unset, .unset, .unset, .unset] [(.int (0 : Int32)), (.int (11 : Int32)), (.ref b3), (.ref b3)])) _
      exact kt
    obtain ⟨cl53, Ar53, q53, Sz53, Ng53, Hs53, Gt53⟩ := id V49
    have hin53 : ¬ ((11 : Int32) < 0 ∨ cl53.slots.size ≤ ((11 : Int32)).toNatClampNeg) := inb_of Sz53 ⟨by decide, by decide⟩
    obtain ⟨T53, h53, X53, e53, W53, st53⟩ := stI X49 hx hZ e49 Ar53 (j := (11 : Int32)) hin53 (g := (mkF m 68 #[.val (.int p1), .val (.int p2), .val (.int ((p1 &&& (2147483647 : Int32)) % (18 : Int32))), .val (.int (p2.toInt16.toInt32)), .unset, .unset, .unset, .unset] [(.int (0 : Int32)), (.int (11 : Int32)), (.ref b3), (.ref b3)])) rfl rfl (hb hby at_68)
    have N53 := Fr.snoc X53 N49 ge4
    have zs54 : n0 ≤ h53.size := Nat.le_trans zs50 (Keep.of_wr W53).1
    have kc55 : Keep h0 h53 [] := kc51.wr W53 (Or.inr sz5)
    have V53 : Arv Z h53 b3 k3 .int (18 : Int32) [(.int (3 : Int32)), (.int (4 : Int32)), (.int (1 : Int32)), (.int (0 : Int32)), (.int (2 : Int32)), (.int (1 : Int32)), (.int (0 : Int32)), (.int (2 : Int32)), (.int (1 : Int32)), (.int (1 : Int32)), (.int (1 : Int32)), (.int (0 : Int32)), (.int (0 : Int32)), (.int (0 : Int32)), (.int (0 : Int32)), (.int (0 : Int32)), (.int (0 : Int32)), (.int (0 : Int32))] (.int (0 : Int32)) := Arv.set Ar53 q53 Sz53 Ng53 Hs53 Gt53 rfl W53 11 rfl (Nat.le_of_ble_eq_true rfl)
    have pre56 : own_Go p e below S0 (T53.setTop (mkF m 73 #[.val (.int p1), .val (.int p2), .val (.int ((p1 &&& (2147483647 : Int32)) % (18 : Int32))), .val (.int (p2.toInt16.toInt32)), .unset, .unset, .unset, .unset] [(.int (0 : Int32)), (.int (12 : Int32)), (.ref b3), (.ref b3)])) := by
      intro t kt
      refine pre52 t ?_
      refine st53 _ ?_
      show Steps p.tables e below (T53.setTop (mkF m 69 #[.val (.int p1), .val (.int p2), .val (.int ((p1 &&& (2147483647 : Int32)) % (18 : Int32))), .val (.int (p2.toInt16.toInt32)), .unset, .unset, .unset, .unset] [(.ref b3)])) _
      refine XS.dup X53.here hx rfl (hb hby at_69) rfl rfl ?_
      show Steps p.tables e below (T53.setTop (mkF m 70 #[.val (.int p1), .val (.int p2), .val (.int ((p1 &&& (2147483647 : Int32)) % (18 : Int32))), .val (.int (p2.toInt16.toInt32)), .unset, .unset, .unset, .unset] [(.ref b3), (.ref b3)])) _
      refine XS.bipush X53.here hx rfl (hb hby at_70) ?_
      show Steps p.tables e below (T53.setTop (mkF m 72 #[.val (.int p1), .val (.int p2), .val (.int ((p1 &&& (2147483647 : Int32)) % (18 : Int32))), .val (.int (p2.toInt16.toInt32)), .unset, .unset, .unset, .unset] [(.int (12 : Int32)), (.ref b3), (.ref b3)])) _
      refine XS.iconst X53.here hx rfl (hb hby at_72) ?_
      show Steps p.tables e below (T53.setTop (mkF m 73 #[.val (.int p1), .val (.int p2), .val (.int ((p1 &&& (2147483647 : Int32)) % (18 : Int32))), .val (.int (p2.toInt16.toInt32)), .unset, .unset, .unset, .unset] [(.int (0 : Int32)), (.int (12 : Int32)), (.ref b3), (.ref b3)])) _
      exact kt
    obtain ⟨cl57, Ar57, q57, Sz57, Ng57, Hs57, Gt57⟩ := id V53
    have hin57 : ¬ ((12 : Int32) < 0 ∨ cl57.slots.size ≤ ((12 : Int32)).toNatClampNeg) := inb_of Sz57 ⟨by decide, by decide⟩
    obtain ⟨T57, h57, X57, e57, W57, st57⟩ := stI X53 hx hZ e53 Ar57 (j := (12 : Int32)) hin57 (g := (mkF m 73 #[.val (.int p1), .val (.int p2), .val (.int ((p1 &&& (2147483647 : Int32)) % (18 : Int32))), .val (.int (p2.toInt16.toInt32)), .unset, .unset, .unset, .unset] [(.int (0 : Int32)), (.int (12 : Int32)), (.ref b3), (.ref b3)])) rfl rfl (hb hby at_73)
    have N57 := Fr.snoc X57 N53 ge4
    have zs58 : n0 ≤ h57.size := Nat.le_trans zs54 (Keep.of_wr W57).1
    have kc59 : Keep h0 h57 [] := kc55.wr W57 (Or.inr sz5)
    have V57 : Arv Z h57 b3 k3 .int (18 : Int32) [(.int (3 : Int32)), (.int (4 : Int32)), (.int (1 : Int32)), (.int (0 : Int32)), (.int (2 : Int32)), (.int (1 : Int32)), (.int (0 : Int32)), (.int (2 : Int32)), (.int (1 : Int32)), (.int (1 : Int32)), (.int (1 : Int32)), (.int (0 : Int32)), (.int (0 : Int32)), (.int (0 : Int32)), (.int (0 : Int32)), (.int (0 : Int32)), (.int (0 : Int32)), (.int (0 : Int32))] (.int (0 : Int32)) := Arv.set Ar57 q57 Sz57 Ng57 Hs57 Gt57 rfl W57 12 rfl (Nat.le_of_ble_eq_true rfl)
    have pre60 : own_Go p e below S0 (T57.setTop (mkF m 78 #[.val (.int p1), .val (.int p2), .val (.int ((p1 &&& (2147483647 : Int32)) % (18 : Int32))), .val (.int (p2.toInt16.toInt32)), .unset, .unset, .unset, .unset] [(.int (0 : Int32)), (.int (13 : Int32)), (.ref b3), (.ref b3)])) := by
      intro t kt
      refine pre56 t ?_
      refine st57 _ ?_
      show Steps p.tables e below (T57.setTop (mkF m 74 #[.val (.int p1), .val (.int p2), .val (.int ((p1 &&& (2147483647 : Int32)) % (18 : Int32))), .val (.int (p2.toInt16.toInt32)), .unset, .unset, .unset, .unset] [(.ref b3)])) _
      refine XS.dup X57.here hx rfl (hb hby at_74) rfl rfl ?_
      show Steps p.tables e below (T57.setTop (mkF m 75 #[.val (.int p1), .val (.int p2), .val (.int ((p1 &&& (2147483647 : Int32)) % (18 : Int32))), .val (.int (p2.toInt16.toInt32)), .unset, .unset, .unset, .unset] [(.ref b3), (.ref b3)])) _
      refine XS.bipush X57.here hx rfl (hb hby at_75) ?_
      show Steps p.tables e below (T57.setTop (mkF m 77 #[.val (.int p1), .val (.int p2), .val (.int ((p1 &&& (2147483647 : Int32)) % (18 : Int32))), .val (.int (p2.toInt16.toInt32)), .unset, .unset, .unset, .unset] [(.int (13 : Int32)), (.ref b3), (.ref b3)])) _
      refine XS.iconst X57.here hx rfl (hb hby at_77) ?_
      show Steps p.tables e below (T57.setTop (mkF m 78 #[.val (.int p1), .val (.int p2), .val (.int ((p1 &&& (2147483647 : Int32)) % (18 : Int32))), .val (.int (p2.toInt16.toInt32)), .unset, .unset, .unset, .unset] [(.int (0 : Int32)), (.int (13 : Int32)), (.ref b3), (.ref b3)])) _
      exact kt
    obtain ⟨cl61, Ar61, q61, Sz61, Ng61, Hs61, Gt61⟩ := id V57
    have hin61 : ¬ ((13 : Int32) < 0 ∨ cl61.slots.size ≤ ((13 : Int32)).toNatClampNeg) := inb_of Sz61 ⟨by decide, by decide⟩
    obtain ⟨T61, h61, X61, e61, W61, st61⟩ := stI X57 hx hZ e57 Ar61 (j := (13 : Int32)) hin61 (g := (mkF m 78 #[.val (.int p1), .val (.int p2), .val (.int ((p1 &&& (2147483647 : Int32)) % (18 : Int32))), .val (.int (p2.toInt16.toInt32)), .unset, .unset, .unset, .unset] [(.int (0 : Int32)), (.int (13 : Int32)), (.ref b3), (.ref b3)])) rfl rfl (hb hby at_78)
    have N61 := Fr.snoc X61 N57 ge4
    have zs62 : n0 ≤ h61.size := Nat.le_trans zs58 (Keep.of_wr W61).1
    have kc63 : Keep h0 h61 [] := kc59.wr W61 (Or.inr sz5)
    have V61 : Arv Z h61 b3 k3 .int (18 : Int32) [(.int (3 : Int32)), (.int (4 : Int32)), (.int (1 : Int32)), (.int (0 : Int32)), (.int (2 : Int32)), (.int (1 : Int32)), (.int (0 : Int32)), (.int (2 : Int32)), (.int (1 : Int32)), (.int (1 : Int32)), (.int (1 : Int32)), (.int (0 : Int32)), (.int (0 : Int32)), (.int (0 : Int32)), (.int (0 : Int32)), (.int (0 : Int32)), (.int (0 : Int32)), (.int (0 : Int32))] (.int (0 : Int32)) := Arv.set Ar61 q61 Sz61 Ng61 Hs61 Gt61 rfl W61 13 rfl (Nat.le_of_ble_eq_true rfl)
    have pre64 : own_Go p e below S0 (T61.setTop (mkF m 83 #[.val (.int p1), .val (.int p2), .val (.int ((p1 &&& (2147483647 : Int32)) % (18 : Int32))), .val (.int (p2.toInt16.toInt32)), .unset, .unset, .unset, .unset] [(.int (0 : Int32)), (.int (14 : Int32)), (.ref b3), (.ref b3)])) := by
      intro t kt
      refine pre60 t ?_
      refine st61 _ ?_
      show Steps p.tables e below (T61.setTop (mkF m 79 #[.val (.int p1), .val (.int p2), .val (.int ((p1 &&& (2147483647 : Int32)) % (18 : Int32))), .val (.int (p2.toInt16.toInt32)), .unset, .unset, .unset, .unset] [(.ref b3)])) _
      refine XS.dup X61.here hx rfl (hb hby at_79) rfl rfl ?_
      show Steps p.tables e below (T61.setTop (mkF m 80 #[.val (.int p1), .val (.int p2), .val (.int ((p1 &&& (2147483647 : Int32)) % (18 : Int32))), .val (.int (p2.toInt16.toInt32)), .unset, .unset, .unset, .unset] [(.ref b3), (.ref b3)])) _
      refine XS.bipush X61.here hx rfl (hb hby at_80) ?_
      show Steps p.tables e below (T61.setTop (mkF m 82 #[.val (.int p1), .val (.int p2), .val (.int ((p1 &&& (2147483647 : Int32)) % (18 : Int32))), .val (.int (p2.toInt16.toInt32)), .unset, .unset, .unset, .unset] [(.int (14 : Int32)), (.ref b3), (.ref b3)])) _
      refine XS.iconst X61.here hx rfl (hb hby at_82) ?_
      show Steps p.tables e below (T61.setTop (mkF m 83 #[.val (.int p1), .val (.int p2), .val (.int ((p1 &&& (2147483647 : Int32)) % (18 : Int32))), .val (.int (p2.toInt16.toInt32)), .unset, .unset, .unset, .unset] [(.int (0 : Int32)), (.int (14 : Int32)), (.ref b3), (.ref b3)])) _
      exact kt
    obtain ⟨cl65, Ar65, q65, Sz65, Ng65, Hs65, Gt65⟩ := id V61
    have hin65 : ¬ ((14 : Int32) < 0 ∨ cl65.slots.size ≤ ((14 : Int32)).toNatClampNeg) := inb_of Sz65 ⟨by decide, by decide⟩
    obtain ⟨T65, h65, X65, e65, W65, st65⟩ := stI X61 hx hZ e61 Ar65 (j := (14 : Int32)) hin65 (g := (mkF m 83 #[.val (.int p1), .val (.int p2), .val (.int ((p1 &&& (2147483647 : Int32)) % (18 : Int32))), .val (.int (p2.toInt16.toInt32)), .unset, .unset, .unset, .unset] [(.int (0 : Int32)), (.int (14 : Int32)), (.ref b3), (.ref b3)])) rfl rfl (hb hby at_83)
    have N65 := Fr.snoc X65 N61 ge4
    have zs66 : n0 ≤ h65.size := Nat.le_trans zs62 (Keep.of_wr W65).1
    have kc67 : Keep h0 h65 [] := kc63.wr W65 (Or.inr sz5)
    have V65 : Arv Z h65 b3 k3 .int (18 : Int32) [(.int (3 : Int32)), (.int (4 : Int32)), (.int (1 : Int32)), (.int (0 : Int32)), (.int (2 : Int32)), (.int (1 : Int32)), (.int (0 : Int32)), (.int (2 : Int32)), (.int (1 : Int32)), (.int (1 : Int32)), (.int (1 : Int32)), (.int (0 : Int32)), (.int (0 : Int32)), (.int (0 : Int32)), (.int (0 : Int32)), (.int (0 : Int32)), (.int (0 : Int32)), (.int (0 : Int32))] (.int (0 : Int32)) := Arv.set Ar65 q65 Sz65 Ng65 Hs65 Gt65 rfl W65 14 rfl (Nat.le_of_ble_eq_true rfl)
    have pre68 : own_Go p e below S0 (T65.setTop (mkF m 88 #[.val (.int p1), .val (.int p2), .val (.int ((p1 &&& (2147483647 : Int32)) % (18 : Int32))), .val (.int (p2.toInt16.toInt32)), .unset, .unset, .unset, .unset] [(.int (0 : Int32)), (.int (15 : Int32)), (.ref b3), (.ref b3)])) := by
      intro t kt
      refine pre64 t ?_
      refine st65 _ ?_
      show Steps p.tables e below (T65.setTop (mkF m 84 #[.val (.int p1), .val (.int p2), .val (.int ((p1 &&& (2147483647 : Int32)) % (18 : Int32))), .val (.int (p2.toInt16.toInt32)), .unset, .unset, .unset, .unset] [(.ref b3)])) _
      refine XS.dup X65.here hx rfl (hb hby at_84) rfl rfl ?_
      show Steps p.tables e below (T65.setTop (mkF m 85 #[.val (.int p1), .val (.int p2), .val (.int ((p1 &&& (2147483647 : Int32)) % (18 : Int32))), .val (.int (p2.toInt16.toInt32)), .unset, .unset, .unset, .unset] [(.ref b3), (.ref b3)])) _
      refine XS.bipush X65.here hx rfl (hb hby at_85) ?_
      show Steps p.tables e below (T65.setTop (mkF m 87 #[.val (.int p1), .val (.int p2), .val (.int ((p1 &&& (2147483647 : Int32)) % (18 : Int32))), .val (.int (p2.toInt16.toInt32)), .unset, .unset, .unset, .unset] [(.int (15 : Int32)), (.ref b3), (.ref b3)])) _
      refine XS.iconst X65.here hx rfl (hb hby at_87) ?_
      show Steps p.tables e below (T65.setTop (mkF m 88 #[.val (.int p1), .val (.int p2), .val (.int ((p1 &&& (2147483647 : Int32)) % (18 : Int32))), .val (.int (p2.toInt16.toInt32)), .unset, .unset, .unset, .unset] [(.int (0 : Int32)), (.int (15 : Int32)), (.ref b3), (.ref b3)])) _
      exact kt
    obtain ⟨cl69, Ar69, q69, Sz69, Ng69, Hs69, Gt69⟩ := id V65
    have hin69 : ¬ ((15 : Int32) < 0 ∨ cl69.slots.size ≤ ((15 : Int32)).toNatClampNeg) := inb_of Sz69 ⟨by decide, by decide⟩
    obtain ⟨T69, h69, X69, e69, W69, st69⟩ := stI X65 hx hZ e65 Ar69 (j := (15 : Int32)) hin69 (g := (mkF m 88 #[.val (.int p1), .val (.int p2), .val (.int ((p1 &&& (2147483647 : Int32)) % (18 : Int32))), .val (.int (p2.toInt16.toInt32)), .unset, .unset, .unset, .unset] [(.int (0 : Int32)), (.int (15 : Int32)), (.ref b3), (.ref b3)])) rfl rfl (hb hby at_88)
    have N69 := Fr.snoc X69 N65 ge4
    have zs70 : n0 ≤ h69.size := Nat.le_trans zs66 (Keep.of_wr W69).1
    have kc71 : Keep h0 h69 [] := kc67.wr W69 (Or.inr sz5)
    have V69 : Arv Z h69 b3 k3 .int (18 : Int32) [(.int (3 : Int32)), (.int (4 : Int32)), (.int (1 : Int32)), (.int (0 : Int32)), (.int (2 : Int32)), (.int (1 : Int32)), (.int (0 : Int32)), (.int (2 : Int32)), (.int (1 : Int32)), (.int (1 : Int32)), (.int (1 : Int32)), (.int (0 : Int32)), (.int (0 : Int32)), (.int (0 : Int32)), (.int (0 : Int32)), (.int (0 : Int32)), (.int (0 : Int32)), (.int (0 : Int32))] (.int (0 : Int32)) := Arv.set Ar69 q69 Sz69 Ng69 Hs69 Gt69 rfl W69 15 rfl (Nat.le_of_ble_eq_true rfl)
    have pre72 : own_Go p e below S0 (T69.setTop (mkF m 93 #[.val (.int p1), .val (.int p2), .val (.int ((p1 &&& (2147483647 : Int32)) % (18 : Int32))), .val (.int (p2.toInt16.toInt32)), .unset, .unset, .unset, .unset] [(.int (0 : Int32)), (.int (16 : Int32)), (.ref b3), (.ref b3)])) := by
      intro t kt
      refine pre68 t ?_
      refine st69 _ ?_
      show Steps p.tables e below (T69.setTop (mkF m 89 #[.val (.int p1), .val (.int p2), .val (.int ((p1 &&& (2147483647 : Int32)) % (18 : Int32))), .val (.int (p2.toInt16.toInt32)), .unset, .unset, .unset, .unset] [(.ref b3)])) _
      refine XS.dup X69.here hx rfl (hb hby at_89) rfl rfl ?_
      show Steps p.tables e below (T69.setTop (mkF m 90 #[.val (.int p1), .val (.int p2), .val (.int ((p1 &&& (2147483647 : Int32)) % (18 : Int32))), .val (.int (p2.toInt16.toInt32)), .unset, .unset, .unset, .unset] [(.ref b3), (.ref b3)])) _
      refine XS.bipush X69.here hx rfl (hb hby at_90) ?_
      show Steps p.tables e below (T69.setTop (mkF m 92 #[.val (.int p1), .val (.int p2), .val (.int ((p1 &&& (2147483647 : Int32)) % (18 : Int32))), .val (.int (p2.toInt16.toInt32)), .unset, .unset, .unset, .unset] [(.int (16 : Int32)), (.ref b3), (.ref b3)])) _
      refine XS.iconst X69.here hx rfl (hb hby at_92) ?_
      show Steps p.tables e below (T69.setTop (mkF m 93 #[.val (.int p1), .val (.int p2), .val (.int ((p1 &&& (2147483647 : Int32)) % (18 : Int32))), .val (.int (p2.toInt16.toInt32)), .unset, .unset, .unset, .unset] [(.int (0 : Int32)), (.int (16 : Int32)), (.ref b3), (.ref b3)])) _
      exact kt
    obtain ⟨cl73, Ar73, q73, Sz73, Ng73, Hs73, Gt73⟩ := id V69
    have hin73 : ¬ ((16 : Int32) < 0 ∨ cl73.slots.size ≤ ((16 : Int32)).toNatClampNeg) := inb_of Sz73 ⟨by decide, by decide⟩
    obtain ⟨T73, h73, X73, e73, W73, st73⟩ := stI X69 hx hZ e69 Ar73 (j := (16 : Int32)) hin73 (g := (mkF m 93 #[.val (.int p1), .val (.int p2), .val (.int ((p1 &&& (2147483647 : Int32)) % (18 : Int32))), .val (.int (p2.toInt16.toInt32)), .unset, .unset, .unset, .unset] [(.int (0 : Int32)), (.int (16 : Int32)), (.ref b3), (.ref b3)])) rfl rfl (hb hby at_93)
    have N73 := Fr.snoc X73 N69 ge4
    have zs74 : n0 ≤ h73.size := Nat.le_trans zs70 (Keep.of_wr W73).1
    have kc75 : Keep h0 h73 [] := kc71.wr W73 (Or.inr sz5)
    have V73 : Arv Z h73 b3 k3 .int (18 : Int32) [(.int (3 : Int32)), (.int (4 : Int32)), (.int (1 : Int32)), (.int (0 : Int32)), (.int (2 : Int32)), (.int (1 : Int32)), (.int (0 : Int32)), (.int (2 : Int32)), (.int (1 : Int32)), (.int (1 : Int32)), (.int (1 : Int32)), (.int (0 : Int32)), (.int (0 : Int32)), (.int (0 : Int32)), (.int (0 : Int32)), (.int (0 : Int32)), (.int (0 : Int32)), (.int (0 : Int32))] (.int (0 : Int32)) := Arv.set Ar73 q73 Sz73 Ng73 Hs73 Gt73 rfl W73 16 rfl (Nat.le_of_ble_eq_true rfl)
    have pre76 : own_Go p e below S0 (T73.setTop (mkF m 98 #[.val (.int p1), .val (.int p2), .val (.int ((p1 &&& (2147483647 : Int32)) % (18 : Int32))), .val (.int (p2.toInt16.toInt32)), .unset, .unset, .unset, .unset] [(.int (0 : Int32)), (.int (17 : Int32)), (.ref b3), (.ref b3)])) := by
      intro t kt
      refine pre72 t ?_
      refine st73 _ ?_
      show Steps p.tables e below (T73.setTop (mkF m 94 #[.val (.int p1), .val (.int p2), .val (.int ((p1 &&& (2147483647 : Int32)) % (18 : Int32))), .val (.int (p2.toInt16.toInt32)), .unset, .unset, .unset, .unset] [(.ref b3)])) _
      refine XS.dup X73.here hx rfl (hb hby at_94) rfl rfl ?_
      show Steps p.tables e below (T73.setTop (mkF m 95 #[.val (.int p1), .val (.int p2), .val (.int ((p1 &&& (2147483647 : Int32)) % (18 : Int32))), .val (.int (p2.toInt16.toInt32)), .unset, .unset, .unset, .unset] [(.ref b3), (.ref b3)])) _
      refine XS.bipush X73.here hx rfl (hb hby at_95) ?_
      show Steps p.tables e below (T73.setTop (mkF m 97 #[.val (.int p1), .val (.int p2), .val (.int ((p1 &&& (2147483647 : Int32)) % (18 : Int32))), .val (.int (p2.toInt16.toInt32)), .unset, .unset, .unset, .unset] [(.int (17 : Int32)), (.ref b3), (.ref b3)])) _
      refine XS.iconst X73.here hx rfl (hb hby at_97) ?_
      show Steps p.tables e below (T73.setTop (mkF m 98 #[.val (.int p1), .val (.int p2), .val (.int ((p1 &&& (2147483647 : Int32)) % (18 : Int32))), .val (.int (p2.toInt16.toInt32)), .unset, .unset, .unset, .unset] [(.int (0 : Int32)), (.int (17 : Int32)), (.ref b3), (.ref b3)])) _
      exact kt
    obtain ⟨cl77, Ar77, q77, Sz77, Ng77, Hs77, Gt77⟩ := id V73
    have hin77 : ¬ ((17 : Int32) < 0 ∨ cl77.slots.size ≤ ((17 : Int32)).toNatClampNeg) := inb_of Sz77 ⟨by decide, by decide⟩
    obtain ⟨T77, h77, X77, e77, W77, st77⟩ := stI X73 hx hZ e73 Ar77 (j := (17 : Int32)) hin77 (g := (mkF m 98 #[.val (.int p1), .val (.int p2), .val (.int ((p1 &&& (2147483647 : Int32)) % (18 : Int32))), .val (.int (p2.toInt16.toInt32)), .unset, .unset, .unset, .unset] [(.int (0 : Int32)), (.int (17 : Int32)), (.ref b3), (.ref b3)])) rfl rfl (hb hby at_98)
    have N77 := Fr.snoc X77 N73 ge4
    have zs78 : n0 ≤ h77.size := Nat.le_trans zs74 (Keep.of_wr W77).1
    have kc79 : Keep h0 h77 [] := kc75.wr W77 (Or.inr sz5)
    have V77 : Arv Z h77 b3 k3 .int (18 : Int32) [(.int (3 : Int32)), (.int (4 : Int32)), (.int (1 : Int32)), (.int (0 : Int32)), (.int (2 : Int32)), (.int (1 : Int32)), (.int (0 : Int32)), (.int (2 : Int32)), (.int (1 : Int32)), (.int (1 : Int32)), (.int (1 : Int32)), (.int (0 : Int32)), (.int (0 : Int32)), (.int (0 : Int32)), (.int (0 : Int32)), (.int (0 : Int32)), (.int (0 : Int32)), (.int (0 : Int32))] (.int (0 : Int32)) := Arv.set Ar77 q77 Sz77 Ng77 Hs77 Gt77 rfl W77 17 rfl (Nat.le_of_ble_eq_true rfl)
    have pre80 : own_Go p e below S0 (T77.setTop (mkF m 103 #[.val (.int p1), .val (.int p2), .val (.int ((p1 &&& (2147483647 : Int32)) % (18 : Int32))), .val (.int (p2.toInt16.toInt32)), .val (.ref b3), .unset, .unset, .unset] [(.int (18 : Int32))])) := by
      intro t kt
      refine pre76 t ?_
      refine st77 _ ?_
      show Steps p.tables e below (T77.setTop (mkF m 99 #[.val (.int p1), .val (.int p2), .val (.int ((p1 &&& (2147483647 : Int32)) % (18 : Int32))), .val (.int (p2.toInt16.toInt32)), .unset, .unset, .unset, .unset] [(.ref b3)])) _
      refine XS.astore X77.here hx rfl (hb hby at_99) rfl rfl (l' := #[.val (.int p1), .val (.int p2), .val (.int ((p1 &&& (2147483647 : Int32)) % (18 : Int32))), .val (.int (p2.toInt16.toInt32)), .val (.ref b3), .unset, .unset, .unset]) rfl ?_
      show Steps p.tables e below (T77.setTop (mkF m 101 #[.val (.int p1), .val (.int p2), .val (.int ((p1 &&& (2147483647 : Int32)) % (18 : Int32))), .val (.int (p2.toInt16.toInt32)), .val (.ref b3), .unset, .unset, .unset] [])) _
      refine XS.bipush X77.here hx rfl (hb hby at_101) ?_
      show Steps p.tables e below (T77.setTop (mkF m 103 #[.val (.int p1), .val (.int p2), .val (.int ((p1 &&& (2147483647 : Int32)) % (18 : Int32))), .val (.int (p2.toInt16.toInt32)), .val (.ref b3), .unset, .unset, .unset] [(.int (18 : Int32))])) _
      exact kt
    obtain ⟨T81, h81, k81, X81, e81, E81, A81, st81⟩ := newP X77 hx hZ (hw _ (own_w 1 rfl)) e77 (g := (mkF m 103 #[.val (.int p1), .val (.int p2), .val (.int ((p1 &&& (2147483647 : Int32)) % (18 : Int32))), .val (.int (p2.toInt16.toInt32)), .val (.ref b3), .unset, .unset, .unset] [(.int (18 : Int32))])) rfl (hb hby at_103) rfl (by decide) (cap := 18) (by decide) (by decide) (by decide) (by decide)
    obtain ⟨b81, g81⟩ : ∃ z, z = h77.size := ⟨_, rfl⟩
    rw [← g81] at A81 st81
    have ne82 : b3 ≠ b81 := Nat.ne_of_lt (Nat.lt_of_lt_of_le V77.lt (Nat.le_of_eq g81.symm))
    have ge83 : n0 ≤ b81 := Nat.le_trans zs78 (Nat.le_of_eq g81.symm)
    have sz84 : h0.size ≤ b81 := Nat.le_trans kc79.1 (Nat.le_of_eq g81.symm)
    have zs85 : n0 ≤ h81.size := Nat.le_trans zs78 E81.1
    have kc86 : Keep h0 h81 [] := kc79.ext E81
    have V81 : Arv Z h81 b81 k81 .int (18 : Int32) [(.int (0 : Int32)), (.int (0 : Int32)), (.int (0 : Int32)), (.int (0 : Int32)), (.int (0 : Int32)), (.int (0 : Int32)), (.int (0 : Int32)), (.int (0 : Int32)), (.int (0 : Int32)), (.int (0 : Int32)), (.int (0 : Int32)), (.int (0 : Int32)), (.int (0 : Int32)), (.int (0 : Int32)), (.int (0 : Int32)), (.int (0 : Int32)), (.int (0 : Int32)), (.int (0 : Int32))] (.int (0 : Int32)) := (Arv.new A81 (by decide)).pad (pad_rep [] (.int (0 : Int32)) 18)
    have pre87 : own_Go p e below S0 (T81.setTop (mkF m 109 #[.val (.int p1), .val (.int p2), .val (.int ((p1 &&& (2147483647 : Int32)) % (18 : Int32))), .val (.int (p2.toInt16.toInt32)), .val (.ref b3), .unset, .unset, .unset] [(.int (7 : Int32)), (.int (0 : Int32)), (.ref b81), (.ref b81)])) := by
      intro t kt
      refine pre80 t ?_
      refine st81 _ ?_
      show Steps p.tables e below (T81.setTop (mkF m 105 #[.val (.int p1), .val (.int p2), .val (.int ((p1 &&& (2147483647 : Int32)) % (18 : Int32))), .val (.int (p2.toInt16.toInt32)), .val (.ref b3), .unset, .unset, .unset] [(.ref b81)])) _
      refine XS.dup X81.here hx rfl (hb hby at_105) rfl rfl ?_
      show Steps p.tables e below (T81.setTop (mkF m 106 #[.val (.int p1), .val (.int p2), .val (.int ((p1 &&& (2147483647 : Int32)) % (18 : Int32))), .val (.int (p2.toInt16.toInt32)), .val (.ref b3), .unset, .unset, .unset] [(.ref b81), (.ref b81)])) _
      refine XS.iconst X81.here hx rfl (hb hby at_106) ?_
      show Steps p.tables e below (T81.setTop (mkF m 107 #[.val (.int p1), .val (.int p2), .val (.int ((p1 &&& (2147483647 : Int32)) % (18 : Int32))), .val (.int (p2.toInt16.toInt32)), .val (.ref b3), .unset, .unset, .unset] [(.int (0 : Int32)), (.ref b81), (.ref b81)])) _
      refine XS.bipush X81.here hx rfl (hb hby at_107) ?_
      show Steps p.tables e below (T81.setTop (mkF m 109 #[.val (.int p1), .val (.int p2), .val (.int ((p1 &&& (2147483647 : Int32)) % (18 : Int32))), .val (.int (p2.toInt16.toInt32)), .val (.ref b3), .unset, .unset, .unset] [(.int (7 : Int32)), (.int (0 : Int32)), (.ref b81), (.ref b81)])) _
      exact kt
    obtain ⟨cl88, Ar88, q88, Sz88, Ng88, Hs88, Gt88⟩ := id V81
    have hin88 : ¬ ((0 : Int32) < 0 ∨ cl88.slots.size ≤ ((0 : Int32)).toNatClampNeg) := inb_of Sz88 ⟨by decide, by decide⟩
    obtain ⟨T88, h88, X88, e88, W88, st88⟩ := stI X81 hx hZ e81 Ar88 (j := (0 : Int32)) hin88 (g := (mkF m 109 #[.val (.int p1), .val (.int p2), .val (.int ((p1 &&& (2147483647 : Int32)) % (18 : Int32))), .val (.int (p2.toInt16.toInt32)), .val (.ref b3), .unset, .unset, .unset] [(.int (7 : Int32)), (.int (0 : Int32)), (.ref b81), (.ref b81)])) rfl rfl (hb hby at_109)
    have N88 := Fr.snoc X88 N77 ge83
    have zs89 : n0 ≤ h88.size := Nat.le_trans zs85 (Keep.of_wr W88).1
    have kc90 : Keep h0 h88 [] := kc86.wr W88 (Or.inr sz84)
    have V88 : Arv Z h88 b81 k81 .int (18 : Int32) [(.int (7 : Int32)), (.int (0 : Int32)), (.int (0 : Int32)), (.int (0 : Int32)), (.int (0 : Int32)), (.int (0 : Int32)), (.int (0 : Int32)), (.int (0 : Int32)), (.int (0 : Int32)), (.int (0 : Int32)), (.int (0 : Int32)), (.int (0 : Int32)), (.int (0 : Int32)), (.int (0 : Int32)), (.int (0 : Int32)), (.int (0 : Int32)), (.int (0 : Int32)), (.int (0 : Int32))] (.int (0 : Int32)) := Arv.set Ar88 q88 Sz88 Ng88 Hs88 Gt88 rfl W88 0 rfl (Nat.le_of_ble_eq_true rfl)
    have pre91 : own_Go p e below S0 (T88.setTop (mkF m 114 #[.val (.int p1), .val (.int p2), .val (.int ((p1 &&& (2147483647 : Int32)) % (18 : Int32))), .val (.int (p2.toInt16.toInt32)), .val (.ref b3), .unset, .unset, .unset] [(.int (11 : Int32)), (.int (1 : Int32)), (.ref b81), (.ref b81)])) := by
      intro t kt
      refine pre87 t ?_
      refine st88 _ ?_
      show Steps p.tables e below (T88.setTop (mkF m 110 #[.val (.int p1), .val (.int p2), .val (.int ((p1 &&& (2147483647 : Int32)) % (18 : Int32))), .val (.int (p2.toInt16.toInt32)), .val (.ref b3), .unset, .unset, .unset] [(.ref b81)])) _
      refine XS.dup X88.here hx rfl (hb hby at_110) rfl rfl ?_
      show Steps p.tables e below (T88.setTop (mkF m 111 #[.val (.int p1), .val (.int p2), .val (.int ((p1 &&& (2147483647 : Int32)) % (18 : Int32))), .val (.int (p2.toInt16.toInt32)), .val (.ref b3), .unset, .unset, .unset] [(.ref b81), (.ref b81)])) _
      refine XS.iconst X88.here hx rfl (hb hby at_111) ?_
      show Steps p.tables e below (T88.setTop (mkF m 112 #[.val (.int p1), .val (.int p2), .val (.int ((p1 &&& (2147483647 : Int32)) % (18 : Int32))), .val (.int (p2.toInt16.toInt32)), .val (.ref b3), .unset, .unset, .unset] [(.int (1 : Int32)), (.ref b81), (.ref b81)])) _
      refine XS.bipush X88.here hx rfl (hb hby at_112) ?_
      show Steps p.tables e below (T88.setTop (mkF m 114 #[.val (.int p1), .val (.int p2), .val (.int ((p1 &&& (2147483647 : Int32)) % (18 : Int32))), .val (.int (p2.toInt16.toInt32)), .val (.ref b3), .unset, .unset, .unset] [(.int (11 : Int32)), (.int (1 : Int32)), (.ref b81), (.ref b81)])) _
      exact kt
    obtain ⟨cl92, Ar92, q92, Sz92, Ng92, Hs92, Gt92⟩ := id V88
    have hin92 : ¬ ((1 : Int32) < 0 ∨ cl92.slots.size ≤ ((1 : Int32)).toNatClampNeg) := inb_of Sz92 ⟨by decide, by decide⟩
    obtain ⟨T92, h92, X92, e92, W92, st92⟩ := stI X88 hx hZ e88 Ar92 (j := (1 : Int32)) hin92 (g := (mkF m 114 #[.val (.int p1), .val (.int p2), .val (.int ((p1 &&& (2147483647 : Int32)) % (18 : Int32))), .val (.int (p2.toInt16.toInt32)), .val (.ref b3), .unset, .unset, .unset] [(.int (11 : Int32)), (.int (1 : Int32)), (.ref b81), (.ref b81)])) rfl rfl (hb hby at_114)
    have N92 := Fr.snoc X92 N88 ge83
    have zs93 : n0 ≤ h92.size := Nat.le_trans zs89 (Keep.of_wr W92).1
    have kc94 : Keep h0 h92 [] := kc90.wr W92 (Or.inr sz84)
    have V92 : Arv Z h92 b81 k81 .int (18 : Int32) [(.int (7 : Int32)), (.int (11 : Int32)), (.int (0 : Int32)), (.int (0 : Int32)), (.int (0 : Int32)), (.int (0 : Int32)), (.int (0 : Int32)), (.int (0 : Int32)), (.int (0 : Int32)), (.int (0 : Int32)), (.int (0 : Int32)), (.int (0 : Int32)), (.int (0 : Int32)), (.int (0 : Int32)), (.int (0 : Int32)), (.int (0 : Int32)), (.int (0 : Int32)), (.int (0 : Int32))] (.int (0 : Int32)) := Arv.set Ar92 q92 Sz92 Ng92 Hs92 Gt92 rfl W92 1 rfl (Nat.le_of_ble_eq_true rfl)
    have pre95 : own_Go p e below S0 (T92.setTop (mkF m 118 #[.val (.int p1), .val (.int p2), .val (.int ((p1 &&& (2147483647 : Int32)) % (18 : Int32))), .val (.int (p2.toInt16.toInt32)), .val (.ref b3), .unset, .unset, .unset] [(.int (2 : Int32)), (.int (2 : Int32)), (.ref b81), (.ref b81)])) := by
      intro t kt
      refine pre91 t ?_
      refine st92 _ ?_
      show Steps p.tables e below (T92.setTop (mkF m 115 #[.val (.int p1), .val (.int p2), .val (.int ((p1 &&& (2147483647 : Int32)) % (18 : Int32))), .val (.int (p2.toInt16.toInt32)), .val (.ref b3), .unset, .unset, .unset] [(.ref b81)])) _
      refine XS.dup X92.here hx rfl (hb hby at_115) rfl rfl ?_
      show Steps p.tables e below (T92.setTop (mkF m 116 #[.val (.int p1), .val (.int p2), .val (.int ((p1 &&& (2147483647 : Int32)) % (18 : Int32))), .val (.int (p2.toInt16.toInt32)), .val (.ref b3), .unset, .unset, .unset] [(.ref b81), (.ref b81)])) _
      refine XS.iconst X92.here hx rfl (hb hby at_116) ?_
      show Steps p.tables e below (T92.setTop (mkF m 117 #[.val (.int p1), .val (.int p2), .val (.int ((p1 &&& (2147483647 : Int32)) % (18 : Int32))), .val (.int (p2.toInt16.toInt32)), .val (.ref b3), .unset, .unset, .unset] [(.int (2 : Int32)), (.ref b81), (.ref b81)])) _
      refine XS.iconst X92.here hx rfl (hb hby at_117) ?_
      show Steps p.tables e below (T92.setTop (mkF m 118 #[.val (.int p1), .val (.int p2), .val (.int ((p1 &&& (2147483647 : Int32)) % (18 : Int32))), .val (.int (p2.toInt16.toInt32)), .val (.ref b3), .unset, .unset, .unset] [(.int (2 : Int32)), (.int (2 : Int32)), (.ref b81), (.ref b81)])) _
      exact kt
    obtain ⟨cl96, Ar96, q96, Sz96, Ng96, Hs96, Gt96⟩ := id V92
    have hin96 : ¬ ((2 : Int32) < 0 ∨ cl96.slots.size ≤ ((2 : Int32)).toNatClampNeg) := inb_of Sz96 ⟨by decide, by decide⟩
    obtain ⟨T96, h96, X96, e96, W96, st96⟩ := stI X92 hx hZ e92 Ar96 (j := (2 : Int32)) hin96 (g := (mkF m 118 #[.val (.int p1), .val (.int p2), .val (.int ((p1 &&& (2147483647 : Int32)) % (18 : Int32))), .val (.int (p2.toInt16.toInt32)), .val (.ref b3), .unset, .unset, .unset] [(.int (2 : Int32)), (.int (2 : Int32)), (.ref b81), (.ref b81)])) rfl rfl (hb hby at_118)
    have N96 := Fr.snoc X96 N92 ge83
    have zs97 : n0 ≤ h96.size := Nat.le_trans zs93 (Keep.of_wr W96).1
    have kc98 : Keep h0 h96 [] := kc94.wr W96 (Or.inr sz84)
    have V96 : Arv Z h96 b81 k81 .int (18 : Int32) [(.int (7 : Int32)), (.int (11 : Int32)), (.int (2 : Int32)), (.int (0 : Int32)), (.int (0 : Int32)), (.int (0 : Int32)), (.int (0 : Int32)), (.int (0 : Int32)), (.int (0 : Int32)), (.int (0 : Int32)), (.int (0 : Int32)), (.int (0 : Int32)), (.int (0 : Int32)), (.int (0 : Int32)), (.int (0 : Int32)), (.int (0 : Int32)), (.int (0 : Int32)), (.int (0 : Int32))] (.int (0 : Int32)) := Arv.set Ar96 q96 Sz96 Ng96 Hs96 Gt96 rfl W96 2 rfl (Nat.le_of_ble_eq_true rfl)
    have pre99 : own_Go p e below S0 (T96.setTop (mkF m 122 #[.val (.int p1), .val (.int p2), .val (.int ((p1 &&& (2147483647 : Int32)) % (18 : Int32))), .val (.int (p2.toInt16.toInt32)), .val (.ref b3), .unset, .unset, .unset] [(.int (4 : Int32)), (.int (3 : Int32)), (.ref b81), (.ref b81)])) := by
      intro t kt
      refine pre95 t ?_
      refine st96 _ ?_
      show Steps p.tables e below (T96.setTop (mkF m 119 #[.val (.int p1), .val (.int p2), .val (.int ((p1 &&& (2147483647 : Int32)) % (18 : Int32))), .val (.int (p2.toInt16.toInt32)), .val (.ref b3), .unset, .unset, .unset] [(.ref b81)])) _
      refine XS.dup X96.here hx rfl (hb hby at_119) rfl rfl ?_
      show Steps p.tables e below (T96.setTop (mkF m 120 #[.val (.int p1), .val (.int p2), .val (.int ((p1 &&& (2147483647 : Int32)) % (18 : Int32))), .val (.int (p2.toInt16.toInt32)), .val (.ref b3), .unset, .unset, .unset] [(.ref b81), (.ref b81)])) _
      refine XS.iconst X96.here hx rfl (hb hby at_120) ?_
      show Steps p.tables e below (T96.setTop (mkF m 121 #[.val (.int p1), .val (.int p2), .val (.int ((p1 &&& (2147483647 : Int32)) % (18 : Int32))), .val (.int (p2.toInt16.toInt32)), .val (.ref b3), .unset, .unset, .unset] [(.int (3 : Int32)), (.ref b81), (.ref b81)])) _
      refine XS.iconst X96.here hx rfl (hb hby at_121) ?_
      show Steps p.tables e below (T96.setTop (mkF m 122 #[.val (.int p1), .val (.int p2), .val (.int ((p1 &&& (2147483647 : Int32)) % (18 : Int32))), .val (.int (p2.toInt16.toInt32)), .val (.ref b3), .unset, .unset, .unset] [(.int (4 : Int32)), (.int (3 : Int32)), (.ref b81), (.ref b81)])) _
      exact kt
    obtain ⟨cl100, Ar100, q100, Sz100, Ng100, Hs100, Gt100⟩ := id V96
    have hin100 : ¬ ((3 : Int32) < 0 ∨ cl100.slots.size ≤ ((3 : Int32)).toNatClampNeg) := inb_of Sz100 ⟨by decide, by decide⟩
    obtain ⟨T100, h100, X100, e100, W100, st100⟩ := stI X96 hx hZ e96 Ar100 (j := (3 : Int32)) hin100 (g := (mkF m 122 #[.val (.int p1), .val (.int p2), .val (.int ((p1 &&& (2147483647 : Int32)) % (18 : Int32))), .val (.int (p2.toInt16.toInt32)), .val (.ref b3), .unset, .unset, .unset] [(.int (4 : Int32)), (.int (3 : Int32)), (.ref b81), (.ref b81)])) rfl rfl (hb hby at_122)
    have N100 := Fr.snoc X100 N96 ge83
    have zs101 : n0 ≤ h100.size := Nat.le_trans zs97 (Keep.of_wr W100).1
    have kc102 : Keep h0 h100 [] := kc98.wr W100 (Or.inr sz84)
    have V100 : Arv Z h100 b81 k81 .int (18 : Int32) [(.int (7 : Int32)), (.int (11 : Int32)), (.int (2 : Int32)), (.int (4 : Int32)), (.int (0 : Int32)), (.int (0 : Int32)), (.int (0 : Int32)), (.int (0 : Int32)), (.int (0 : Int32)), (.int (0 : Int32)), (.int (0 : Int32)), (.int (0 : Int32)), (.int (0 : Int32)), (.int (0 : Int32)), (.int (0 : Int32)), (.int (0 : Int32)), (.int (0 : Int32)), (.int (0 : Int32))] (.int (0 : Int32)) := Arv.set Ar100 q100 Sz100 Ng100 Hs100 Gt100 rfl W100 3 rfl (Nat.le_of_ble_eq_true rfl)
    have pre103 : own_Go p e below S0 (T100.setTop (mkF m 126 #[.val (.int p1), .val (.int p2), .val (.int ((p1 &&& (2147483647 : Int32)) % (18 : Int32))), .val (.int (p2.toInt16.toInt32)), .val (.ref b3), .unset, .unset, .unset] [(.int (2 : Int32)), (.int (4 : Int32)), (.ref b81), (.ref b81)])) := by
      intro t kt
      refine pre99 t ?_
      refine st100 _ ?_
      show Steps p.tables e below (T100.setTop (mkF m 123 #[.val (.int p1), .val (.int p2), .val (.int ((p1 &&& (2147483647 : Int32)) % (18 : Int32))), .val (.int (p2.toInt16.toInt32)), .val (.ref b3), .unset, .unset, .unset] [(.ref b81)])) _
      refine XS.dup X100.here hx rfl (hb hby at_123) rfl rfl ?_
      show Steps p.tables e below (T100.setTop (mkF m 124 #[.val (.int p1), .val (.int p2), .val (.int ((p1 &&& (2147483647 : Int32)) % (18 : Int32))), .val (.int (p2.toInt16.toInt32)), .val (.ref b3), .unset, .unset, .unset] [(.ref b81), (.ref b81)])) _
      refine XS.iconst X100.here hx rfl (hb hby at_124) ?_
      show Steps p.tables e below (T100.setTop (mkF m 125 #[.val (.int p1), .val (.int p2), .val (.int ((p1 &&& (2147483647 : Int32)) % (18 : Int32))), .val (.int (p2.toInt16.toInt32)), .val (.ref b3), .unset, .unset, .unset] [(.int (4 : Int32)), (.ref b81), (.ref b81)])) _
      refine XS.iconst X100.here hx rfl (hb hby at_125) ?_
      show Steps p.tables e below (T100.setTop (mkF m 126 #[.val (.int p1), .val (.int p2), .val (.int ((p1 &&& (2147483647 : Int32)) % (18 : Int32))), .val (.int (p2.toInt16.toInt32)), .val (.ref b3), .unset, .unset, .unset] [(.int (2 : Int32)), (.int (4 : Int32)), (.ref b81), (.ref b81)])) _
      exact kt
    obtain ⟨cl104, Ar104, q104, Sz104, Ng104, Hs104, Gt104⟩ := id V100
    have hin104 : ¬ ((4 : Int32) < 0 ∨ cl104.slots.size ≤ ((4 : Int32)).toNatClampNeg) := inb_of Sz104 ⟨by decide, by decide⟩
    obtain ⟨T104, h104, X104, e104, W104, st104⟩ := stI X100 hx hZ e100 Ar104 (j := (4 : Int32)) hin104 (g := (mkF m 126 #[.val (.int p1), .val (.int p2), .val (.int ((p1 &&& (2147483647 : Int32)) % (18 : Int32))), .val (.int (p2.toInt16.toInt32)), .val (.ref b3), .unset, .unset, .unset] [(.int (2 : Int32)), (.int (4 : Int32)), (.ref b81), (.ref b81)])) rfl rfl (hb hby at_126)
    have N104 := Fr.snoc X104 N100 ge83
    have zs105 : n0 ≤ h104.size := Nat.le_trans zs101 (Keep.of_wr W104).1
    have kc106 : Keep h0 h104 [] := kc102.wr W104 (Or.inr sz84)
    have V104 : Arv Z h104 b81 k81 .int (18 : Int32) [(.int (7 : Int32)), (.int (11 : Int32)), (.int (2 : Int32)), (.int (4 : Int32)), (.int (2 : Int32)), (.int (0 : Int32)), (.int (0 : Int32)), (.int (0 : Int32)), (.int (0 : Int32)), (.int (0 : Int32)), (.int (0 : Int32)), (.int (0 : Int32)), (.int (0 : Int32)), (.int (0 : Int32)), (.int (0 : Int32)), (.int (0 : Int32)), (.int (0 : Int32)), (.int (0 : Int32))] (.int (0 : Int32)) := Arv.set Ar104 q104 Sz104 Ng104 Hs104 Gt104 rfl W104 4 rfl (Nat.le_of_ble_eq_true rfl)
    have pre107 : own_Go p e below S0 (T104.setTop (mkF m 130 #[.val (.int p1), .val (.int p2), .val (.int ((p1 &&& (2147483647 : Int32)) % (18 : Int32))), .val (.int (p2.toInt16.toInt32)), .val (.ref b3), .unset, .unset, .unset] [(.int (5 : Int32)), (.int (5 : Int32)), (.ref b81), (.ref b81)])) := by
      intro t kt
      refine pre103 t ?_
      refine st104 _ ?_
      show Steps p.tables e below (T104.setTop (mkF m 127 #[.val (.int p1), .val (.int p2), .val (.int ((p1 &&& (2147483647 : Int32)) % (18 : Int32))), .val (.int (p2.toInt16.toInt32)), .val (.ref b3), .unset, .unset, .unset] [(.ref b81)])) _
      refine XS.dup X104.here hx rfl (hb hby at_127) rfl rfl ?_
      show Steps p.tables e below (T104.setTop (mkF m 128 #[.val (.int p1), .val (.int p2), .val (.int ((p1 &&& (2147483647 : Int32)) % (18 : Int32))), .val (.int (p2.toInt16.toInt32)), .val (.ref b3), .unset, .unset, .unset] [(.ref b81), (.ref b81)])) _
      refine XS.iconst X104.here hx rfl (hb hby at_128) ?_
      show Steps p.tables e below (T104.setTop (mkF m 129 #[.val (.int p1), .val (.int p2), .val (.int ((p1 &&& (2147483647 : Int32)) % (18 : Int32))), .val (.int (p2.toInt16.toInt32)), .val (.ref b3), .unset, .unset, .unset] [(.int (5 : Int32)), (.ref b81), (.ref b81)])) _
      refine XS.iconst X104.here hx rfl (hb hby at_129) ?_
      show Steps p.tables e below (T104.setTop (mkF m 130 #[.val (.int p1), .val (.int p2), .val (.int ((p1 &&& (2147483647 : Int32)) % (18 : Int32))), .val (.int (p2.toInt16.toInt32)), .val (.ref b3), .unset, .unset, .unset] [(.int (5 : Int32)), (.int (5 : Int32)), (.ref b81), (.ref b81)])) _
      exact kt
    obtain ⟨cl108, Ar108, q108, Sz108, Ng108, Hs108, Gt108⟩ := id V104
    have hin108 : ¬ ((5 : Int32) < 0 ∨ cl108.slots.size ≤ ((5 : Int32)).toNatClampNeg) := inb_of Sz108 ⟨by decide, by decide⟩
    obtain ⟨T108, h108, X108, e108, W108, st108⟩ := stI X104 hx hZ e104 Ar108 (j := (5 : Int32)) hin108 (g := (mkF m 130 #[.val (.int p1), .val (.int p2), .val (.int ((p1 &&& (2147483647 : Int32)) % (18 : Int32))), .val (.int (p2.toInt16.toInt32)), .val (.ref b3), .unset, .unset, .unset] [(.int (5 : Int32)), (.int (5 : Int32)), (.ref b81), (.ref b81)])) rfl rfl (hb hby at_130)
    have N108 := Fr.snoc X108 N104 ge83
    have zs109 : n0 ≤ h108.size := Nat.le_trans zs105 (Keep.of_wr W108).1
    have kc110 : Keep h0 h108 [] := kc106.wr W108 (Or.inr sz84)
    have V108 : Arv Z h108 b81 k81 .int (18 : Int32) [(.int (7 : Int32)), (.int (11 : Int32)), (.int (2 : Int32)), (.int (4 : Int32)), (.int (2 : Int32)), (.int (5 : Int32)), (.int (0 : Int32)), (.int (0 : Int32)), (.int (0 : Int32)), (.int (0 : Int32)), (.int (0 : Int32)), (.int (0 : Int32)), (.int (0 : Int32)), (.int (0 : Int32)), (.int (0 : Int32)), (.int (0 : Int32)), (.int (0 : Int32)), (.int (0 : Int32))] (.int (0 : Int32)) := Arv.set Ar108 q108 Sz108 Ng108 Hs108 Gt108 rfl W108 5 rfl (Nat.le_of_ble_eq_true rfl)
    have pre111 : own_Go p e below S0 (T108.setTop (mkF m 135 #[.val (.int p1), .val (.int p2), .val (.int ((p1 &&& (2147483647 : Int32)) % (18 : Int32))), .val (.int (p2.toInt16.toInt32)), .val (.ref b3), .unset, .unset, .unset] [(.int (0 : Int32)), (.int (6 : Int32)), (.ref b81), (.ref b81)])) := by
      intro t kt
      refine pre107 t ?_
      refine st108 _ ?_
      show Steps p.tables e below (T108.setTop (mkF m 131 #[.val (.int p1), .val (.int p2), .val (.int ((p1 &&& (2147483647 : Int32)) % (18 : Int32))), .val (.int (p2.toInt16.toInt32)), .val (.ref b3), .unset, .unset, .unset] [(.ref b81)])) _
      refine XS.dup X108.here hx rfl (hb hby at_131) rfl rfl ?_
      show Steps p.tables e below (T108.setTop (mkF m 132 #[.val (.int p1), .val (.int p2), .val (.int ((p1 &&& (2147483647 : Int32)) % (18 : Int32))), .val (.int (p2.toInt16.toInt32)), .val (.ref b3), .unset, .unset, .unset] [(.ref b81), (.ref b81)])) _
      refine XS.bipush X108.here hx rfl (hb hby at_132) ?_
      show Steps p.tables e below (T108.setTop (mkF m 134 #[.val (.int p1), .val (.int p2), .val (.int ((p1 &&& (2147483647 : Int32)) % (18 : Int32))), .val (.int (p2.toInt16.toInt32)), .val (.ref b3), .unset, .unset, .unset] [(.int (6 : Int32)), (.ref b81), (.ref b81)])) _
      refine XS.iconst X108.here hx rfl (hb hby at_134) ?_
      show Steps p.tables e below (T108.setTop (mkF m 135 #[.val (.int p1), .val (.int p2), .val (.int ((p1 &&& (2147483647 : Int32)) % (18 : Int32))), .val (.int (p2.toInt16.toInt32)), .val (.ref b3), .unset, .unset, .unset] [(.int (0 : Int32)), (.int (6 : Int32)), (.ref b81), (.ref b81)])) _
      exact kt
    obtain ⟨cl112, Ar112, q112, Sz112, Ng112, Hs112, Gt112⟩ := id V108
    have hin112 : ¬ ((6 : Int32) < 0 ∨ cl112.slots.size ≤ ((6 : Int32)).toNatClampNeg) := inb_of Sz112 ⟨by decide, by decide⟩
    obtain ⟨T112, h112, X112, e112, W112, st112⟩ := stI X108 hx hZ e108 Ar112 (j := (6 : Int32)) hin112 (g := (mkF m 135 #[.val (.int p1), .val (.int p2), .val (.int ((p1 &&& (2147483647 : Int32)) % (18 : Int32))), .val (.int (p2.toInt16.toInt32)), .val (.ref b3), .unset, .unset, .unset] [(.int (0 : Int32)), (.int (6 : Int32)), (.ref b81), (.ref b81)])) rfl rfl (hb hby at_135)
    have N112 := Fr.snoc X112 N108 ge83
    have zs113 : n0 ≤ h112.size := Nat.le_trans zs109 (Keep.of_wr W112).1
    have kc114 : Keep h0 h112 [] := kc110.wr W112 (Or.inr sz84)
    have V112 : Arv Z h112 b81 k81 .int (18 : Int32) [(.int (7 : Int32)), (.int (11 : Int32)), (.int (2 : Int32)), (.int (4 : Int32)), (.int (2 : Int32)), (.int (5 : Int32)), (.int (0 : Int32)), (.int (0 : Int32)), (.int (0 : Int32)), (.int (0 : Int32)), (.int (0 : Int32)), (.int (0 : Int32)), (.int (0 : Int32)), (.int (0 : Int32)), (.int (0 : Int32)), (.int (0 : Int32)), (.int (0 : Int32)), (.int (0 : Int32))] (.int (0 : Int32)) := Arv.set Ar112 q112 Sz112 Ng112 Hs112 Gt112 rfl W112 6 rfl (Nat.le_of_ble_eq_true rfl)
    have pre115 : own_Go p e below S0 (T112.setTop (mkF m 140 #[.val (.int p1), .val (.int p2), .val (.int ((p1 &&& (2147483647 : Int32)) % (18 : Int32))), .val (.int (p2.toInt16.toInt32)), .val (.ref b3), .unset, .unset, .unset] [(.int (2 : Int32)), (.int (7 : Int32)), (.ref b81), (.ref b81)])) := by
      intro t kt
      refine pre111 t ?_
      refine st112 _ ?_
      show Steps p.tables e below (T112.setTop (mkF m 136 #[.val (.int p1), .val (.int p2), .val (.int ((p1 &&& (2147483647 : Int32)) % (18 : Int32))), .val (.int (p2.toInt16.toInt32)), .val (.ref b3), .unset, .unset, .unset] [(.ref b81)])) _
      refine XS.dup X112.here hx rfl (hb hby at_136) rfl rfl ?_
      show Steps p.tables e below (T112.setTop (mkF m 137 #[.val (.int p1), .val (.int p2), .val (.int ((p1 &&& (2147483647 : Int32)) % (18 : Int32))), .val (.int (p2.toInt16.toInt32)), .val (.ref b3), .unset, .unset, .unset] [(.ref b81), (.ref b81)])) _
      refine XS.bipush X112.here hx rfl (hb hby at_137) ?_
      show Steps p.tables e below (T112.setTop (mkF m 139 #[.val (.int p1), .val (.int p2), .val (.int ((p1 &&& (2147483647 : Int32)) % (18 : Int32))), .val (.int (p2.toInt16.toInt32)), .val (.ref b3), .unset, .unset, .unset] [(.int (7 : Int32)), (.ref b81), (.ref b81)])) _
      refine XS.iconst X112.here hx rfl (hb hby at_139) ?_
      show Steps p.tables e below (T112.setTop (mkF m 140 #[.val (.int p1), .val (.int p2), .val (.int ((p1 &&& (2147483647 : Int32)) % (18 : Int32))), .val (.int (p2.toInt16.toInt32)), .val (.ref b3), .unset, .unset, .unset] [(.int (2 : Int32)), (.int (7 : Int32)), (.ref b81), (.ref b81)])) _
      exact kt
    obtain ⟨cl116, Ar116, q116, Sz116, Ng116, Hs116, Gt116⟩ := id V112
    have hin116 : ¬ ((7 : Int32) < 0 ∨ cl116.slots.size ≤ ((7 : Int32)).toNatClampNeg) := inb_of Sz116 ⟨by decide, by decide⟩
    obtain ⟨T116, h116, X116, e116, W116, st116⟩ := stI X112 hx hZ e112 Ar116 (j := (7 : Int32)) hin116 (g := (mkF m 140 #[.val (.int p1), .val (.int p2), .val (.int ((p1 &&& (2147483647 : Int32)) % (18 : Int32))), .val (.int (p2.toInt16.toInt32)), .val (.ref b3), .unset, .unset, .unset] [(.int (2 : Int32)), (.int (7 : Int32)), (.ref b81), (.ref b81)])) rfl rfl (hb hby at_140)
    have N116 := Fr.snoc X116 N112 ge83
    have zs117 : n0 ≤ h116.size := Nat.le_trans zs113 (Keep.of_wr W116).1
    have kc118 : Keep h0 h116 [] := kc114.wr W116 (Or.inr sz84)
    have V116 : Arv Z h116 b81 k81 .int (18 : Int32) [(.int (7 : Int32)), (.int (11 : Int32)), (.int (2 : Int32)), (.int (4 : Int32)), (.int (2 : Int32)), (.int (5 : Int32)), (.int (0 : Int32)), (.int (2 : Int32)), (.int (0 : Int32)), (.int (0 : Int32)), (.int (0 : Int32)), (.int (0 : Int32)), (.int (0 : Int32)), (.int (0 : Int32)), (.int (0 : Int32)), (.int (0 : Int32)), (.int (0 : Int32)), (.int (0 : Int32))] (.int (0 : Int32)) := Arv.set Ar116 q116 Sz116 Ng116 Hs116 Gt116 rfl W116 7 rfl (Nat.le_of_ble_eq_true rfl)
    have pre119 : own_Go p e below S0 (T116.setTop (mkF m 145 #[.val (.int p1), .val (.int p2), .val (.int ((p1 &&& (2147483647 : Int32)) % (18 : Int32))), .val (.int (p2.toInt16.toInt32)), .val (.ref b3), .unset, .unset, .unset] [(.int (1 : Int32)), (.int (8 : Int32)), (.ref b81), (.ref b81)])) := by
      intro t kt
      refine pre115 t ?_
      refine st116 _ ?_
      show Steps p.tables e below (T116.setTop (mkF m 141 #[.val (.int p1), .val (.int p2), .val (.int ((p1 &&& (2147483647 : Int32)) % (18 : Int32))), .val (.int (p2.toInt16.toInt32)), .val (.ref b3), .unset, .unset, .unset] [(.ref b81)])) _
      refine XS.dup X116.here hx rfl (hb hby at_141) rfl rfl ?_
      show Steps p.tables e below (T116.setTop (mkF m 142 #[.val (.int p1), .val (.int p2), .val (.int ((p1 &&& (2147483647 : Int32)) % (18 : Int32))), .val (.int (p2.toInt16.toInt32)), .val (.ref b3), .unset, .unset, .unset] [(.ref b81), (.ref b81)])) _
      refine XS.bipush X116.here hx rfl (hb hby at_142) ?_
      show Steps p.tables e below (T116.setTop (mkF m 144 #[.val (.int p1), .val (.int p2), .val (.int ((p1 &&& (2147483647 : Int32)) % (18 : Int32))), .val (.int (p2.toInt16.toInt32)), .val (.ref b3), .unset, .unset, .unset] [(.int (8 : Int32)), (.ref b81), (.ref b81)])) _
      refine XS.iconst X116.here hx rfl (hb hby at_144) ?_
      show Steps p.tables e below (T116.setTop (mkF m 145 #[.val (.int p1), .val (.int p2), .val (.int ((p1 &&& (2147483647 : Int32)) % (18 : Int32))), .val (.int (p2.toInt16.toInt32)), .val (.ref b3), .unset, .unset, .unset] [(.int (1 : Int32)), (.int (8 : Int32)), (.ref b81), (.ref b81)])) _
      exact kt
    obtain ⟨cl120, Ar120, q120, Sz120, Ng120, Hs120, Gt120⟩ := id V116
    have hin120 : ¬ ((8 : Int32) < 0 ∨ cl120.slots.size ≤ ((8 : Int32)).toNatClampNeg) := inb_of Sz120 ⟨by decide, by decide⟩
    obtain ⟨T120, h120, X120, e120, W120, st120⟩ := stI X116 hx hZ e116 Ar120 (j := (8 : Int32)) hin120 (g := (mkF m 145 #[.val (.int p1), .val (.int p2), .val (.int ((p1 &&& (2147483647 : Int32)) % (18 : Int32))), .val (.int (p2.toInt16.toInt32)), .val (.ref b3), .unset, .unset, .unset] [(.int (1 : Int32)), (.int (8 : Int32)), (.ref b81), (.ref b81)])) rfl rfl (hb hby at_145)
    have N120 := Fr.snoc X120 N116 ge83
    have zs121 : n0 ≤ h120.size := Nat.le_trans zs117 (Keep.of_wr W120).1
    have kc122 : Keep h0 h120 [] := kc118.wr W120 (Or.inr sz84)
    have V120 : Arv Z h120 b81 k81 .int (18 : Int32) [(.int (7 : Int32)), (.int (11 : Int32)), (.int (2 : Int32)), (.int (4 : Int32)), (.int (2 : Int32)), (.int (5 : Int32)), (.int (0 : Int32)), (.int (2 : Int32)), (.int (1 : Int32)), (.int (0 : Int32)), (.int (0 : Int32)), (.int (0 : Int32)), (.int (0 : Int32)), (.int (0 : Int32)), (.int (0 : Int32)), (.int (0 : Int32)), (.int (0 : Int32)), (.int (0 : Int32))] (.int (0 : Int32)) := Arv.set Ar120 q120 Sz120 Ng120 Hs120 Gt120 rfl W120 8 rfl (Nat.le_of_ble_eq_true rfl)
    have pre123 : own_Go p e below S0 (T120.setTop (mkF m 150 #[.val (.int p1), .val (.int p2), .val (.int ((p1 &&& (2147483647 : Int32)) % (18 : Int32))), .val (.int (p2.toInt16.toInt32)), .val (.ref b3), .unset, .unset, .unset] [(.int (1 : Int32)), (.int (9 : Int32)), (.ref b81), (.ref b81)])) := by
      intro t kt
      refine pre119 t ?_
      refine st120 _ ?_
      show Steps p.tables e below (T120.setTop (mkF m 146 #[.val (.int p1), .val (.int p2), .val (.int ((p1 &&& (2147483647 : Int32)) % (18 : Int32))), .val (.int (p2.toInt16.toInt32)), .val (.ref b3), .unset, .unset, .unset] [(.ref b81)])) _
      refine XS.dup X120.here hx rfl (hb hby at_146) rfl rfl ?_
      show Steps p.tables e below (T120.setTop (mkF m 147 #[.val (.int p1), .val (.int p2), .val (.int ((p1 &&& (2147483647 : Int32)) % (18 : Int32))), .val (.int (p2.toInt16.toInt32)), .val (.ref b3), .unset, .unset, .unset] [(.ref b81), (.ref b81)])) _
      refine XS.bipush X120.here hx rfl (hb hby at_147) ?_
      show Steps p.tables e below (T120.setTop (mkF m 149 #[.val (.int p1), .val (.int p2), .val (.int ((p1 &&& (2147483647 : Int32)) % (18 : Int32))), .val (.int (p2.toInt16.toInt32)), .val (.ref b3), .unset, .unset, .unset] [(.int (9 : Int32)), (.ref b81), (.ref b81)])) _
      refine XS.iconst X120.here hx rfl (hb hby at_149) ?_
      show Steps p.tables e below (T120.setTop (mkF m 150 #[.val (.int p1), .val (.int p2), .val (.int ((p1 &&& (2147483647 : Int32)) % (18 : Int32))), .val (.int (p2.toInt16.toInt32)), .val (.ref b3), .unset, .unset, .unset] [(.int (1 : Int32)), (.int (9 : Int32)), (.ref b81), (.ref b81)])) _
      exact kt
    obtain ⟨cl124, Ar124, q124, Sz124, Ng124, Hs124, Gt124⟩ := id V120
    have hin124 : ¬ ((9 : Int32) < 0 ∨ cl124.slots.size ≤ ((9 : Int32)).toNatClampNeg) := inb_of Sz124 ⟨by decide, by decide⟩
    obtain ⟨T124, h124, X124, e124, W124, st124⟩ := stI X120 hx hZ e120 Ar124 (j := (9 : Int32)) hin124 (g := (mkF m 150 #[.val (.int p1), .val (.int p2), .val (.int ((p1 &&& (2147483647 : Int32)) % (18 : Int32))), .val (.int (p2.toInt16.toInt32)), .val (.ref b3), .unset, .unset, .unset] [(.int (1 : Int32)), (.int (9 : Int32)), (.ref b81), (.ref b81)])) rfl rfl (hb hby at_150)
    have N124 := Fr.snoc X124 N120 ge83
    have zs125 : n0 ≤ h124.size := Nat.le_trans zs121 (Keep.of_wr W124).1
    have kc126 : Keep h0 h124 [] := kc122.wr W124 (Or.inr sz84)
    have V124 : Arv Z h124 b81 k81 .int (18 : Int32) [(.int (7 : Int32)), (.int (11 : Int32)), (.int (2 : Int32)), (.int (4 : Int32)), (.int (2 : Int32)), (.int (5 : Int32)), (.int (0 : Int32)), (.int (2 : Int32)), (.int (1 : Int32)), (.int (1 : Int32)), (.int (0 : Int32)), (.int (0 : Int32)), (.int (0 : Int32)), (.int (0 : Int32)), (.int (0 : Int32)), (.int (0 : Int32)), (.int (0 : Int32)), (.int (0 : Int32))] (.int (0 : Int32)) := Arv.set Ar124 q124 Sz124 Ng124 Hs124 Gt124 rfl W124 9 rfl (Nat.le_of_ble_eq_true rfl)
    have pre127 : own_Go p e below S0 (T124.setTop (mkF m 155 #[.val (.int p1), .val (.int p2), .val (.int ((p1 &&& (2147483647 : Int32)) % (18 : Int32))), .val (.int (p2.toInt16.toInt32)), .val (.ref b3), .unset, .unset, .unset] [(.int (1 : Int32)), (.int (10 : Int32)), (.ref b81), (.ref b81)])) := by
      intro t kt
      refine pre123 t ?_
      refine st124 _ ?_
      show Steps p.tables e below (T124.setTop (mkF m 151 #[.val (.int p1), .val (.int p2), .val (.int ((p1 &&& (2147483647 : Int32)) % (18 : Int32))), .val (.int (p2.toInt16.toInt32)), .val (.ref b3), .unset, .unset, .unset] [(.ref b81)])) _
      refine XS.dup X124.here hx rfl (hb hby at_151) rfl rfl ?_
      show Steps p.tables e below (T124.setTop (mkF m 152 #[.val (.int p1), .val (.int p2), .val (.int ((p1 &&& (2147483647 : Int32)) % (18 : Int32))), .val (.int (p2.toInt16.toInt32)), .val (.ref b3), .unset, .unset, .unset] [(.ref b81), (.ref b81)])) _
      refine XS.bipush X124.here hx rfl (hb hby at_152) ?_
      show Steps p.tables e below (T124.setTop (mkF m 154 #[.val (.int p1), .val (.int p2), .val (.int ((p1 &&& (2147483647 : Int32)) % (18 : Int32))), .val (.int (p2.toInt16.toInt32)), .val (.ref b3), .unset, .unset, .unset] [(.int (10 : Int32)), (.ref b81), (.ref b81)])) _
      refine XS.iconst X124.here hx rfl (hb hby at_154) ?_
      show Steps p.tables e below (T124.setTop (mkF m 155 #[.val (.int p1), .val (.int p2), .val (.int ((p1 &&& (2147483647 : Int32)) % (18 : Int32))), .val (.int (p2.toInt16.toInt32)), .val (.ref b3), .unset, .unset, .unset] [(.int (1 : Int32)), (.int (10 : Int32)), (.ref b81), (.ref b81)])) _
      exact kt
    obtain ⟨cl128, Ar128, q128, Sz128, Ng128, Hs128, Gt128⟩ := id V124
    have hin128 : ¬ ((10 : Int32) < 0 ∨ cl128.slots.size ≤ ((10 : Int32)).toNatClampNeg) := inb_of Sz128 ⟨by decide, by decide⟩
    obtain ⟨T128, h128, X128, e128, W128, st128⟩ := stI X124 hx hZ e124 Ar128 (j := (10 : Int32)) hin128 (g := (mkF m 155 #[.val (.int p1), .val (.int p2), .val (.int ((p1 &&& (2147483647 : Int32)) % (18 : Int32))), .val (.int (p2.toInt16.toInt32)), .val (.ref b3), .unset, .unset, .unset] [(.int (1 : Int32)), (.int (10 : Int32)), (.ref b81), (.ref b81)])) rfl rfl (hb hby at_155)
    have N128 := Fr.snoc X128 N124 ge83
    have zs129 : n0 ≤ h128.size := Nat.le_trans zs125 (Keep.of_wr W128).1
    have kc130 : Keep h0 h128 [] := kc126.wr W128 (Or.inr sz84)
    have V128 : Arv Z h128 b81 k81 .int (18 : Int32) [(.int (7 : Int32)), (.int (11 : Int32)), (.int (2 : Int32)), (.int (4 : Int32)), (.int (2 : Int32)), (.int (5 : Int32)), (.int (0 : Int32)), (.int (2 : Int32)), (.int (1 : Int32)), (.int (1 : Int32)), (.int (1 : Int32)), (.int (0 : Int32)), (.int (0 : Int32)), (.int (0 : Int32)), (.int (0 : Int32)), (.int (0 : Int32)), (.int (0 : Int32)), (.int (0 : Int32))] (.int (0 : Int32)) := Arv.set Ar128 q128 Sz128 Ng128 Hs128 Gt128 rfl W128 10 rfl (Nat.le_of_ble_eq_true rfl)
    have pre131 : own_Go p e below S0 (T128.setTop (mkF m 160 #[.val (.int p1), .val (.int p2), .val (.int ((p1 &&& (2147483647 : Int32)) % (18 : Int32))), .val (.int (p2.toInt16.toInt32)), .val (.ref b3), .unset, .unset, .unset] [(.int (4 : Int32)), (.int (11 : Int32)), (.ref b81), (.ref b81)])) := by
      intro t kt
      refine pre127 t ?_
      refine st128 _ ?_
      show Steps p.tables e below (T128.setTop (mkF m 156 #[.val (.int p1), .val (.int p2), .val (.int ((p1 &&& (2147483647 : Int32)) % (18 : Int32))), .val (.int (p2.toInt16.toInt32)), .val (.ref b3), .unset, .unset, .unset] [(.ref b81)])) _
      refine XS.dup X128.here hx rfl (hb hby at_156) rfl rfl ?_
      show Steps p.tables e below (T128.setTop (mkF m 157 #[.val (.int p1), .val (.int p2), .val (.int ((p1 &&& (2147483647 : Int32)) % (18 : Int32))), .val (.int (p2.toInt16.toInt32)), .val (.ref b3), .unset, .unset, .unset] [(.ref b81), (.ref b81)])) _
      refine XS.bipush X128.here hx rfl (hb hby at_157) ?_
      show Steps p.tables e below (T128.setTop (mkF m 159 #[.val (.int p1), .val (.int p2), .val (.int ((p1 &&& (2147483647 : Int32)) % (18 : Int32))), .val (.int (p2.toInt16.toInt32)), .val (.ref b3), .unset, .unset, .unset] [(.int (11 : Int32)), (.ref b81), (.ref b81)])) _
      refine XS.iconst X128.here hx rfl (hb hby at_159) ?_
      show Steps p.tables e below (T128.setTop (mkF m 160 #[.val (.int p1), .val (.int p2), .val (.int ((p1 &&& (2147483647 : Int32)) % (18 : Int32))), .val (.int (p2.toInt16.toInt32)), .val (.ref b3), .unset, .unset, .unset] [(.int (4 : Int32)), (.int (11 : Int32)), (.ref b81), (.ref b81)])) _
      exact kt
    obtain ⟨cl132, Ar132, q132, Sz132, Ng132, Hs132, Gt132⟩ := id V128
    have hin132 : ¬ ((11 : Int32) < 0 ∨ cl132.slots.size ≤ ((11 : Int32)).toNatClampNeg) := inb_of Sz132 ⟨by decide, by decide⟩
    obtain ⟨T132, h132, X132, e132, W132, st132⟩ := stI X128 hx hZ e128 Ar132 (j := (11 : Int32)) hin132 (g := (mkF m 160 #[.val (.int p1), .val (.int p2), .val (.int ((p1 &&& (2147483647 : Int32)) % (18 : Int32))), .val (.int (p2.toInt16.toInt32)), .val (.ref b3), .unset, .unset, .unset] [(.int (4 : Int32)), (.int (11 : Int32)), (.ref b81), (.ref b81)])) rfl rfl (hb hby at_160)
    have N132 := Fr.snoc X132 N128 ge83
    have zs133 : n0 ≤ h132.size := Nat.le_trans zs129 (Keep.of_wr W132).1
    have kc134 : Keep h0 h132 [] := kc130.wr W132 (Or.inr sz84)
    have V132 : Arv Z h132 b81 k81 .int (18 : Int32) [(.int (7 : Int32)), (.int (11 : Int32)), (.int (2 : Int32)), (.int (4 : Int32)), (.int (2 : Int32)), (.int (5 : Int32)), (.int (0 : Int32)), (.int (2 : Int32)), (.int (1 : Int32)), (.int (1 : Int32)), (.int (1 : Int32)), (.int (4 : Int32)), (.int (0 : Int32)), (.int (0 : Int32)), (.int (0 : Int32)), (.int (0 : Int32)), (.int (0 : Int32)), (.int (0 : Int32))] (.int (0 : Int32)) := Arv.set Ar132 q132 Sz132 Ng132 Hs132 Gt132 rfl W132 11 rfl (Nat.le_of_ble_eq_true rfl)
    have pre135 : own_Go p e below S0 (T132.setTop (mkF m 165 #[.val (.int p1), .val (.int p2), .val (.int ((p1 &&& (2147483647 : Int32)) % (18 : Int32))), .val (.int (p2.toInt16.toInt32)), .val (.ref b3), .unset, .unset, .unset] [(.int (2 : Int32)), (.int (12 : Int32)), (.ref b81), (.ref b81)])) := by
      intro t kt
      refine pre131 t ?_
      refine st132 _ ?_
      show Steps p.tables e below (T132.setTop (mkF m 161 #[.val (.int p1), .val (.int p2), .val (.int ((p1 &&& (2147483647 : Int32)) % (18 : Int32))), .val (.int (p2.toInt16.toInt32)), .val (.ref b3), .unset, .unset, .unset] [(.ref b81)])) _
      refine XS.dup X132.here hx rfl (hb hby at_161) rfl rfl ?_
      show Steps p.tables e below (T132.setTop (mkF m 162 #[.val (.int p1), .val (.int p2), .val (.int ((p1 &&& (2147483647 : Int32)) % (18 : Int32))), .val (.int (p2.toInt16.toInt32)), .val (.ref b3), .unset, .unset, .unset] [(.ref b81), (.ref b81)])) _
      refine XS.bipush X132.here hx rfl (hb hby at_162) ?_
      show Steps p.tables e below (T132.setTop (mkF m 164 #[.val (.int p1), .val (.int p2), .val (.int ((p1 &&& (2147483647 : Int32)) % (18 : Int32))), .val (.int (p2.toInt16.toInt32)), .val (.ref b3), .unset, .unset, .unset] [(.int (12 : Int32)), (.ref b81), (.ref b81)])) _
      refine XS.iconst X132.here hx rfl (hb hby at_164) ?_
      show Steps p.tables e below (T132.setTop (mkF m 165 #[.val (.int p1), .val (.int p2), .val (.int ((p1 &&& (2147483647 : Int32)) % (18 : Int32))), .val (.int (p2.toInt16.toInt32)), .val (.ref b3), .unset, .unset, .unset] [(.int (2 : Int32)), (.int (12 : Int32)), (.ref b81), (.ref b81)])) _
      exact kt
    obtain ⟨cl136, Ar136, q136, Sz136, Ng136, Hs136, Gt136⟩ := id V132
    have hin136 : ¬ ((12 : Int32) < 0 ∨ cl136.slots.size ≤ ((12 : Int32)).toNatClampNeg) := inb_of Sz136 ⟨by decide, by decide⟩
    obtain ⟨T136, h136, X136, e136, W136, st136⟩ := stI X132 hx hZ e132 Ar136 (j := (12 : Int32)) hin136 (g := (mkF m 165 #[.val (.int p1), .val (.int p2), .val (.int ((p1 &&& (2147483647 : Int32)) % (18 : Int32))), .val (.int (p2.toInt16.toInt32)), .val (.ref b3), .unset, .unset, .unset] [(.int (2 : Int32)), (.int (12 : Int32)), (.ref b81), (.ref b81)])) rfl rfl (hb hby at_165)
    have N136 := Fr.snoc X136 N132 ge83
    have zs137 : n0 ≤ h136.size := Nat.le_trans zs133 (Keep.of_wr W136).1
    have kc138 : Keep h0 h136 [] := kc134.wr W136 (Or.inr sz84)
    have V136 : Arv Z h136 b81 k81 .int (18 : Int32) [(.int (7 : Int32)), (.int (11 : Int32)), (.int (2 : Int32)), (.int (4 : Int32)), (.int (2 : Int32)), (.int (5 : Int32)), (.int (0 : Int32)), (.int (2 : Int32)), (.int (1 : Int32)), (.int (1 : Int32)), (.int (1 : Int32)), (.int (4 : Int32)), (.int (2 : Int32)), (.int (0 : Int32)), (.int (0 : Int32)), (.int (0 : Int32)), (.int (0 : Int32)), (.int (0 : Int32))] (.int (0 : Int32)) := Arv.set Ar136 q136 Sz136 Ng136 Hs136 Gt136 rfl W136 12 rfl (Nat.le_of_ble_eq_true rfl)
    have pre139 : own_Go p e below S0 (T136.setTop (mkF m 170 #[.val (.int p1), .val (.int p2), .val (.int ((p1 &&& (2147483647 : Int32)) % (18 : Int32))), .val (.int (p2.toInt16.toInt32)), .val (.ref b3), .unset, .unset, .unset] [(.int (3 : Int32)), (.int (13 : Int32)), (.ref b81), (.ref b81)])) := by
      intro t kt
      refine pre135 t ?_
      refine st136 _ ?_
      show Steps p.tables e below (T136.setTop (mkF m 166 #[.val (.int p1), .val (.int p2), .val (.int ((p1 &&& (2147483647 : Int32)) % (18 : Int32))), .val (.int (p2.toInt16.toInt32)), .val (.ref b3), .unset, .unset, .unset] [(.ref b81)])) _
      refine XS.dup X136.here hx rfl (hb hby at_166) rfl rfl ?_
      show Steps p.tables e below (T136.setTop (mkF m 167 #[.val (.int p1), .val (.int p2), .val (.int ((p1 &&& (2147483647 : Int32)) % (18 : Int32))), .val (.int (p2.toInt16.toInt32)), .val (.ref b3), .unset, .unset, .unset] [(.ref b81), (.ref b81)])) _
      refine XS.bipush X136.here hx rfl (hb hby at_167) ?_
      show Steps p.tables e below (T136.setTop (mkF m 169 #[.val (.int p1), .val (.int p2), .val (.int ((p1 &&& (2147483647 : Int32)) % (18 : Int32))), .val (.int (p2.toInt16.toInt32)), .val (.ref b3), .unset, .unset, .unset] [(.int (13 : Int32)), (.ref b81), (.ref b81)])) _
      refine XS.iconst X136.here hx rfl (hb hby at_169) ?_
      show Steps p.tables e below (T136.setTop (mkF m 170 #[.val (.int p1), .val (.int p2), .val (.int ((p1 &&& (2147483647 : Int32)) % (18 : Int32))), .val (.int (p2.toInt16.toInt32)), .val (.ref b3), .unset, .unset, .unset] [(.int (3 : Int32)), (.int (13 : Int32)), (.ref b81), (.ref b81)])) _
      exact kt
    obtain ⟨cl140, Ar140, q140, Sz140, Ng140, Hs140, Gt140⟩ := id V136
    have hin140 : ¬ ((13 : Int32) < 0 ∨ cl140.slots.size ≤ ((13 : Int32)).toNatClampNeg) := inb_of Sz140 ⟨by decide, by decide⟩
    obtain ⟨T140, h140, X140, e140, W140, st140⟩ := stI X136 hx hZ e136 Ar140 (j := (13 : Int32)) hin140 (g := (mkF m 170 #[.val (.int p1), .val (.int p2), .val (.int ((p1 &&& (2147483647 : Int32)) % (18 : Int32))), .val (.int (p2.toInt16.toInt32)), .val (.ref b3), .unset, .unset, .unset] [(.int (3 : Int32)), (.int (13 : Int32)), (.ref b81), (.ref b81)])) rfl rfl (hb hby at_170)
    have N140 := Fr.snoc X140 N136 ge83
    have zs141 : n0 ≤ h140.size := Nat.le_trans zs137 (Keep.of_wr W140).1
    have kc142 : Keep h0 h140 [] := kc138.wr W140 (Or.inr sz84)
    have V140 : Arv Z h140 b81 k81 .int (18 : Int32) [(.int (7 : Int32)), (.int (11 : Int32)), (.int (2 : Int32)), (.int (4 : Int32)), (.int (2 : Int32)), (.int (5 : Int32)), (.int (0 : Int32)), (.int (2 : Int32)), (.int (1 : Int32)), (.int (1 : Int32)), (.int (1 : Int32)), (.int (4 : Int32)), (.int (2 : Int32)), (.int (3 : Int32)), (.int (0 : Int32)), (.int (0 : Int32)), (.int (0 : Int32)), (.int (0 : Int32))] (.int (0 : Int32)) := Arv.set Ar140 q140 Sz140 Ng140 Hs140 Gt140 rfl W140 13 rfl (Nat.le_of_ble_eq_true rfl)
    have pre143 : own_Go p e below S0 (T140.setTop (mkF m 175 #[.val (.int p1), .val (.int p2), .val (.int ((p1 &&& (2147483647 : Int32)) % (18 : Int32))), .val (.int (p2.toInt16.toInt32)), .val (.ref b3), .unset, .unset, .unset] [(.int (4 : Int32)), (.int (14 : Int32)), (.ref b81), (.ref b81)])) := by
      intro t kt
      refine pre139 t ?_
      refine st140 _ ?_
      show Steps p.tables e below (T140.setTop (mkF m 171 #[.val (.int p1), .val (.int p2), .val (.int ((p1 &&& (2147483647 : Int32)) % (18 : Int32))), .val (.int (p2.toInt16.toInt32)), .val (.ref b3), .unset, .unset, .unset] [(.ref b81)])) _
      refine XS.dup X140.here hx rfl (hb hby at_171) rfl rfl ?_
      show Steps p.tables e below (T140.setTop (mkF m 172 #[.val (.int p1), .val (.int p2), .val (.int ((p1 &&& (2147483647 : Int32)) % (18 : Int32))), .val (.int (p2.toInt16.toInt32)), .val (.ref b3), .unset, .unset, .unset] [(.ref b81), (.ref b81)])) _
      refine XS.bipush X140.here hx rfl (hb hby at_172) ?_
      show Steps p.tables e below (T140.setTop (mkF m 174 #[.val (.int p1), .val (.int p2), .val (.int ((p1 &&& (2147483647 : Int32)) % (18 : Int32))), .val (.int (p2.toInt16.toInt32)), .val (.ref b3), .unset, .unset, .unset] [(.int (14 : Int32)), (.ref b81), (.ref b81)])) _
      refine XS.iconst X140.here hx rfl (hb hby at_174) ?_
      show Steps p.tables e below (T140.setTop (mkF m 175 #[.val (.int p1), .val (.int p2), .val (.int ((p1 &&& (2147483647 : Int32)) % (18 : Int32))), .val (.int (p2.toInt16.toInt32)), .val (.ref b3), .unset, .unset, .unset] [(.int (4 : Int32)), (.int (14 : Int32)), (.ref b81), (.ref b81)])) _
      exact kt
    obtain ⟨cl144, Ar144, q144, Sz144, Ng144, Hs144, Gt144⟩ := id V140
    have hin144 : ¬ ((14 : Int32) < 0 ∨ cl144.slots.size ≤ ((14 : Int32)).toNatClampNeg) := inb_of Sz144 ⟨by decide, by decide⟩
    obtain ⟨T144, h144, X144, e144, W144, st144⟩ := stI X140 hx hZ e140 Ar144 (j := (14 : Int32)) hin144 (g := (mkF m 175 #[.val (.int p1), .val (.int p2), .val (.int ((p1 &&& (2147483647 : Int32)) % (18 : Int32))), .val (.int (p2.toInt16.toInt32)), .val (.ref b3), .unset, .unset, .unset] [(.int (4 : Int32)), (.int (14 : Int32)), (.ref b81), (.ref b81)])) rfl rfl (hb hby at_175)
    have N144 := Fr.snoc X144 N140 ge83
    have zs145 : n0 ≤ h144.size := Nat.le_trans zs141 (Keep.of_wr W144).1
    have kc146 : Keep h0 h144 [] := kc142.wr W144 (Or.inr sz84)
    have V144 : Arv Z h144 b81 k81 .int (18 : Int32) [(.int (7 : Int32)), (.int (11 : Int32)), (.int (2 : Int32)), (.int (4 : Int32)), (.int (2 : Int32)), (.int (5 : Int32)), (.int (0 : Int32)), (.int (2 : Int32)), (.int (1 : Int32)), (.int (1 : Int32)), (.int (1 : Int32)), (.int (4 : Int32)), (.int (2 : Int32)), (.int (3 : Int32)), (.int (4 : Int32)), (.int (0 : Int32)), (.int (0 : Int32)), (.int (0 : Int32))] (.int (0 : Int32)) := Arv.set Ar144 q144 Sz144 Ng144 Hs144 Gt144 rfl W144 14 rfl (Nat.le_of_ble_eq_true rfl)
    have pre147 : own_Go p e below S0 (T144.setTop (mkF m 180 #[.val (.int p1), .val (.int p2), .val (.int ((p1 &&& (2147483647 : Int32)) % (18 : Int32))), .val (.int (p2.toInt16.toInt32)), .val (.ref b3), .unset, .unset, .unset] [(.int (3 : Int32)), (.int (15 : Int32)), (.ref b81), (.ref b81)])) := by
      intro t kt
      refine pre143 t ?_
      refine st144 _ ?_
      show Steps p.tables e below (T144.setTop (mkF m 176 #[.val (.int p1), .val (.int p2), .val (.int ((p1 &&& (2147483647 : Int32)) % (18 : Int32))), .val (.int (p2.toInt16.toInt32)), .val (.ref b3), .unset, .unset, .unset] [(.ref b81)])) _
      refine XS.dup X144.here hx rfl (hb hby at_176) rfl rfl ?_
      show Steps p.tables e below (T144.setTop (mkF m 177 #[.val (.int p1), .val (.int p2), .val (.int ((p1 &&& (2147483647 : Int32)) % (18 : Int32))), .val (.int (p2.toInt16.toInt32)), .val (.ref b3), .unset, .unset, .unset] [(.ref b81), (.ref b81)])) _
      refine XS.bipush X144.here hx rfl (hb hby at_177) ?_
      show Steps p.tables e below (T144.setTop (mkF m 179 #[.val (.int p1), .val (.int p2), .val (.int ((p1 &&& (2147483647 : Int32)) % (18 : Int32))), .val (.int (p2.toInt16.toInt32)), .val (.ref b3), .unset, .unset, .unset] [(.int (15 : Int32)), (.ref b81), (.ref b81)])) _
      refine XS.iconst X144.here hx rfl (hb hby at_179) ?_
      show Steps p.tables e below (T144.setTop (mkF m 180 #[.val (.int p1), .val (.int p2), .val (.int ((p1 &&& (2147483647 : Int32)) % (18 : Int32))), .val (.int (p2.toInt16.toInt32)), .val (.ref b3), .unset, .unset, .unset] [(.int (3 : Int32)), (.int (15 : Int32)), (.ref b81), (.ref b81)])) _
      exact kt
    obtain ⟨cl148, Ar148, q148, Sz148, Ng148, Hs148, Gt148⟩ := id V144
    have hin148 : ¬ ((15 : Int32) < 0 ∨ cl148.slots.size ≤ ((15 : Int32)).toNatClampNeg) := inb_of Sz148 ⟨by decide, by decide⟩
    obtain ⟨T148, h148, X148, e148, W148, st148⟩ := stI X144 hx hZ e144 Ar148 (j := (15 : Int32)) hin148 (g := (mkF m 180 #[.val (.int p1), .val (.int p2), .val (.int ((p1 &&& (2147483647 : Int32)) % (18 : Int32))), .val (.int (p2.toInt16.toInt32)), .val (.ref b3), .unset, .unset, .unset] [(.int (3 : Int32)), (.int (15 : Int32)), (.ref b81), (.ref b81)])) rfl rfl (hb hby at_180)
    have N148 := Fr.snoc X148 N144 ge83
    have zs149 : n0 ≤ h148.size := Nat.le_trans zs145 (Keep.of_wr W148).1
    have kc150 : Keep h0 h148 [] := kc146.wr W148 (Or.inr sz84)
    have V148 : Arv Z h148 b81 k81 .int (18 : Int32) [(.int (7 : Int32)), (.int (11 : Int32)), (.int (2 : Int32)), (.int (4 : Int32)), (.int (2 : Int32)), (.int (5 : Int32)), (.int (0 : Int32)), (.int (2 : Int32)), (.int (1 : Int32)), (.int (1 : Int32)), (.int (1 : Int32)), (.int (4 : Int32)), (.int (2 : Int32)), (.int (3 : Int32)), (.int (4 : Int32)), (.int (3 : Int32)), (.int (0 : Int32)), (.int (0 : Int32))] (.int (0 : Int32)) := Arv.set Ar148 q148 Sz148 Ng148 Hs148 Gt148 rfl W148 15 rfl (Nat.le_of_ble_eq_true rfl)
    have pre151 : own_Go p e below S0 (T148.setTop (mkF m 185 #[.val (.int p1), .val (.int p2), .val (.int ((p1 &&& (2147483647 : Int32)) % (18 : Int32))), .val (.int (p2.toInt16.toInt32)), .val (.ref b3), .unset, .unset, .unset] [(.int (1 : Int32)), (.int (16 : Int32)), (.ref b81), (.ref b81)])) := by
      intro t kt
      refine pre147 t ?_
      refine st148 _ ?_
      show Steps p.tables e below (T148.setTop (mkF m 181 #[.val (.int p1), .val (.int p2), .val (.int ((p1 &&& (2147483647 : Int32)) % (18 : Int32))), .val (.int (p2.toInt16.toInt32)), .val (.ref b3), .unset, .unset, .unset] [(.ref b81)])) _
      refine XS.dup X148.here hx rfl (hb hby at_181) rfl rfl ?_
      show Steps p.tables e below (T148.setTop (mkF m 182 #[.val (.int p1), .val (.int p2), .val (.int ((p1 &&& (2147483647 : Int32)) % (18 : Int32))), .val (.int (p2.toInt16.toInt32)), .val (.ref b3), .unset, .unset, .unset] [(.ref b81), (.ref b81)])) _
      refine XS.bipush X148.here hx rfl (hb hby at_182) ?_
      show Steps p.tables e below (T148.setTop (mkF m 184 #[.val (.int p1), .val (.int p2), .val (.int ((p1 &&& (2147483647 : Int32)) % (18 : Int32))), .val (.int (p2.toInt16.toInt32)), .val (.ref b3), .unset, .unset, .unset] [(.int (16 : Int32)), (.ref b81), (.ref b81)])) _
      refine XS.iconst X148.here hx rfl (hb hby at_184) ?_
      show Steps p.tables e below (T148.setTop (mkF m 185 #[.val (.int p1), .val (.int p2), .val (.int ((p1 &&& (2147483647 : Int32)) % (18 : Int32))), .val (.int (p2.toInt16.toInt32)), .val (.ref b3), .unset, .unset, .unset] [(.int (1 : Int32)), (.int (16 : Int32)), (.ref b81), (.ref b81)])) _
      exact kt
    obtain ⟨cl152, Ar152, q152, Sz152, Ng152, Hs152, Gt152⟩ := id V148
    have hin152 : ¬ ((16 : Int32) < 0 ∨ cl152.slots.size ≤ ((16 : Int32)).toNatClampNeg) := inb_of Sz152 ⟨by decide, by decide⟩
    obtain ⟨T152, h152, X152, e152, W152, st152⟩ := stI X148 hx hZ e148 Ar152 (j := (16 : Int32)) hin152 (g := (mkF m 185 #[.val (.int p1), .val (.int p2), .val (.int ((p1 &&& (2147483647 : Int32)) % (18 : Int32))), .val (.int (p2.toInt16.toInt32)), .val (.ref b3), .unset, .unset, .unset] [(.int (1 : Int32)), (.int (16 : Int32)), (.ref b81), (.ref b81)])) rfl rfl (hb hby at_185)
    have N152 := Fr.snoc X152 N148 ge83
    have zs153 : n0 ≤ h152.size := Nat.le_trans zs149 (Keep.of_wr W152).1
    have kc154 : Keep h0 h152 [] := kc150.wr W152 (Or.inr sz84)
    have V152 : Arv Z h152 b81 k81 .int (18 : Int32) [(.int (7 : Int32)), (.int (11 : Int32)), (.int (2 : Int32)), (.int (4 : Int32)), (.int (2 : Int32)), (.int (5 : Int32)), (.int (0 : Int32)), (.int (2 : Int32)), (.int (1 : Int32)), (.int (1 : Int32)), (.int (1 : Int32)), (.int (4 : Int32)), (.int (2 : Int32)), (.int (3 : Int32)), (.int (4 : Int32)), (.int (3 : Int32)), (.int (1 : Int32)), (.int (0 : Int32))] (.int (0 : Int32)) := Arv.set Ar152 q152 Sz152 Ng152 Hs152 Gt152 rfl W152 16 rfl (Nat.le_of_ble_eq_true rfl)
    have pre155 : own_Go p e below S0 (T152.setTop (mkF m 190 #[.val (.int p1), .val (.int p2), .val (.int ((p1 &&& (2147483647 : Int32)) % (18 : Int32))), .val (.int (p2.toInt16.toInt32)), .val (.ref b3), .unset, .unset, .unset] [(.int (1 : Int32)), (.int (17 : Int32)), (.ref b81), (.ref b81)])) := by
      intro t kt
      refine pre151 t ?_
      refine st152 _ ?_
      show Steps p.tables e below (T152.setTop (mkF m 186 #[.val (.int p1), .val (.int p2), .val (.int ((p1 &&& (2147483647 : Int32)) % (18 : Int32))), .val (.int (p2.toInt16.toInt32)), .val (.ref b3), .unset, .unset, .unset] [(.ref b81)])) _
      refine XS.dup X152.here hx rfl (hb hby at_186) rfl rfl ?_
      show Steps p.tables e below (T152.setTop (mkF m 187 #[.val (.int p1), .val (.int p2), .val (.int ((p1 &&& (2147483647 : Int32)) % (18 : Int32))), .val (.int (p2.toInt16.toInt32)), .val (.ref b3), .unset, .unset, .unset] [(.ref b81), (.ref b81)])) _
      refine XS.bipush X152.here hx rfl (hb hby at_187) ?_
      show Steps p.tables e below (T152.setTop (mkF m 189 #[.val (.int p1), .val (.int p2), .val (.int ((p1 &&& (2147483647 : Int32)) % (18 : Int32))), .val (.int (p2.toInt16.toInt32)), .val (.ref b3), .unset, .unset, .unset] [(.int (17 : Int32)), (.ref b81), (.ref b81)])) _
      refine XS.iconst X152.here hx rfl (hb hby at_189) ?_
      show Steps p.tables e below (T152.setTop (mkF m 190 #[.val (.int p1), .val (.int p2), .val (.int ((p1 &&& (2147483647 : Int32)) % (18 : Int32))), .val (.int (p2.toInt16.toInt32)), .val (.ref b3), .unset, .unset, .unset] [(.int (1 : Int32)), (.int (17 : Int32)), (.ref b81), (.ref b81)])) _
      exact kt
    obtain ⟨cl156, Ar156, q156, Sz156, Ng156, Hs156, Gt156⟩ := id V152
    have hin156 : ¬ ((17 : Int32) < 0 ∨ cl156.slots.size ≤ ((17 : Int32)).toNatClampNeg) := inb_of Sz156 ⟨by decide, by decide⟩
    obtain ⟨T156, h156, X156, e156, W156, st156⟩ := stI X152 hx hZ e152 Ar156 (j := (17 : Int32)) hin156 (g := (mkF m 190 #[.val (.int p1), .val (.int p2), .val (.int ((p1 &&& (2147483647 : Int32)) % (18 : Int32))), .val (.int (p2.toInt16.toInt32)), .val (.ref b3), .unset, .unset, .unset] [(.int (1 : Int32)), (.int (17 : Int32)), (.ref b81), (.ref b81)])) rfl rfl (hb hby at_190)
    have N156 := Fr.snoc X156 N152 ge83
    have zs157 : n0 ≤ h156.size := Nat.le_trans zs153 (Keep.of_wr W156).1
    have kc158 : Keep h0 h156 [] := kc154.wr W156 (Or.inr sz84)
    have V156 : Arv Z h156 b81 k81 .int (18 : Int32) [(.int (7 : Int32)), (.int (11 : Int32)), (.int (2 : Int32)), (.int (4 : Int32)), (.int (2 : Int32)), (.int (5 : Int32)), (.int (0 : Int32)), (.int (2 : Int32)), (.int (1 : Int32)), (.int (1 : Int32)), (.int (1 : Int32)), (.int (4 : Int32)), (.int (2 : Int32)), (.int (3 : Int32)), (.int (4 : Int32)), (.int (3 : Int32)), (.int (1 : Int32)), (.int (1 : Int32))] (.int (0 : Int32)) := Arv.set Ar156 q156 Sz156 Ng156 Hs156 Gt156 rfl W156 17 rfl (Nat.le_of_ble_eq_true rfl)
    have pre159 : own_Go p e below S0 (T156.setTop (mkF m 193 #[.val (.int p1), .val (.int p2), .val (.int ((p1 &&& (2147483647 : Int32)) % (18 : Int32))), .val (.int (p2.toInt16.toInt32)), .val (.ref b3), .val (.ref b81), .unset, .unset] [])) := by
      intro t kt
      refine pre155 t ?_
      refine st156 _ ?_
      show Steps p.tables e below (T156.setTop (mkF m 191 #[.val (.int p1), .val (.int p2), .val (.int ((p1 &&& (2147483647 : Int32)) % (18 : Int32))), .val (.int (p2.toInt16.toInt32)), .val (.ref b3), .unset, .unset, .unset] [(.ref b81)])) _
      refine XS.astore X156.here hx rfl (hb hby at_191) rfl rfl (l' := #[.val (.int p1), .val (.int p2), .val (.int ((p1 &&& (2147483647 : Int32)) % (18 : Int32))), .val (.int (p2.toInt16.toInt32)), .val (.ref b3), .val (.ref b81), .unset, .unset]) rfl ?_
      show Steps p.tables e below (T156.setTop (mkF m 193 #[.val (.int p1), .val (.int p2), .val (.int ((p1 &&& (2147483647 : Int32)) % (18 : Int32))), .val (.int (p2.toInt16.toInt32)), .val (.ref b3), .val (.ref b81), .unset, .unset] [])) _
      exact kt
    have f160 := (((V77.ext E81).other W88 ne82).other W92 ne82)
    have f161 := ((((f160.other W96 ne82).other W100 ne82).other W104 ne82).other W108 ne82)
    have f162 := ((((f161.other W112 ne82).other W116 ne82).other W120 ne82).other W124 ne82)
    have f163 := ((((f162.other W128 ne82).other W132 ne82).other W136 ne82).other W140 ne82)
    have f164 : Arv Z h156 b3 k3 .int (18 : Int32) [(.int (3 : Int32)), (.int (4 : Int32)), (.int (1 : Int32)), (.int (0 : Int32)), (.int (2 : Int32)), (.int (1 : Int32)), (.int (0 : Int32)), (.int (2 : Int32)), (.int (1 : Int32)), (.int (1 : Int32)), (.int (1 : Int32)), (.int (0 : Int32)), (.int (0 : Int32)), (.int (0 : Int32)), (.int (0 : Int32)), (.int (0 : Int32)), (.int (0 : Int32)), (.int (0 : Int32))] (.int (0 : Int32)) := ((((f163.other W144 ne82).other W148 ne82).other W152 ne82).other W156 ne82)
    exact ⟨b3, b81, k3, k81, T156, _, _, (Stand.mono X156 (by decide) (by decide)), N156, e156, kc158, f164, V156, pre159⟩
  have zs167 : n0 ≤ hj1.size := Nat.le_trans Z0 Kj1.1
  have f168 : Old Z n0 hj1 := (O0.keep Kj1 all0)
  have pre169 : own_Go p e below S0 (Tj1.setTop (mkF m 194 #[.val (.int p1), .val (.int p2), .val (.int ((p1 &&& (2147483647 : Int32)) % (18 : Int32))), .val (.int (p2.toInt16.toInt32)), .val (.ref al), .val (.ref ah), .unset, .unset] [(.int ((p1 &&& (2147483647 : Int32)) % (18 : Int32)))])) := by
    intro t kt
    refine prej1 t ?_
    refine XS.iloadN Xj1.here hx rfl (hb hby at_193) rfl ?_
    show Steps p.tables e below (Tj1.setTop (mkF m 194 #[.val (.int p1), .val (.int p2), .val (.int ((p1 &&& (2147483647 : Int32)) % (18 : Int32))), .val (.int (p2.toInt16.toInt32)), .val (.ref al), .val (.ref ah), .unset, .unset] [(.int ((p1 &&& (2147483647 : Int32)) % (18 : Int32)))])) _
    exact kt
  obtain ⟨wk, lv, hv, Tj170, lj170, Xj170, Nj170, ej170, pj225, pj226, pj227, pj228, qj229, qj230, qj231, prej170⟩ : ∃ (wk : Addr) (lv : Int32) (hv : Int32) (Tj170 : State) (lj170 : List Loc), Stand p l e room_1 s m #[(.int p1), (.int p2)] below meth c Tj170 lj170 2 36 ∧ Fr n0 lj170 ∧ Tj170.heap = hj1 ∧ (¬ ((p1 &&& (2147483647 : Int32)) % (18 : Int32)) < 0) ∧ (((p1 &&& (2147483647 : Int32)) % (18 : Int32)) < 18) ∧ ([(.int (3 : Int32)), (.int (4 : Int32)), (.int (1 : Int32)), (.int (0 : Int32)), (.int (2 : Int32)), (.int (1 : Int32)), (.int (0 : Int32)), (.int (2 : Int32)), (.int (1 : Int32)), (.int (1 : Int32)), (.int (1 : Int32)), (.int (0 : Int32)), (.int (0 : Int32)), (.int (0 : Int32)), (.int (0 : Int32)), (.int (0 : Int32)), (.int (0 : Int32)), (.int (0 : Int32))] : List Value).getD (((p1 &&& (2147483647 : Int32)) % (18 : Int32))).toNatClampNeg (.int (0 : Int32)) = .int lv ∧ ([(.int (7 : Int32)), (.int (11 : Int32)), (.int (2 : Int32)), (.int (4 : Int32)), (.int (2 : Int32)), (.int (5 : Int32)), (.int (0 : Int32)), (.int (2 : Int32)), (.int (1 : Int32)), (.int (1 : Int32)), (.int (1 : Int32)), (.int (4 : Int32)), (.int (2 : Int32)), (.int (3 : Int32)), (.int (4 : Int32)), (.int (3 : Int32)), (.int (1 : Int32)), (.int (1 : Int32))] : List Value).getD (((p1 &&& (2147483647 : Int32)) % (18 : Int32))).toNatClampNeg (.int (0 : Int32)) = .int hv ∧ Exa Z hj1 wk "com/example/eurybates/eurybates/protocol/ApiKey" ∧ Fld Z hj1 wk "com/example/eurybates/eurybates/protocol/ApiKey" "oldestVersion" "S" (.int lv) ∧ Fld Z hj1 wk "com/example/eurybates/eurybates/protocol/ApiKey" "latestVersion" "S" (.int hv) ∧ own_Go p e below S0 (Tj170.setTop (mkF m 197 #[.val (.int p1), .val (.int p2), .val (.int ((p1 &&& (2147483647 : Int32)) % (18 : Int32))), .val (.int (p2.toInt16.toInt32)), .val (.ref al), .val (.ref ah), .unset, .unset] [(.ref wk)])) := by
    rcases own_rem18 p1 with hk | hk | hk | hk | hk | hk | hk | hk | hk | hk | hk | hk | hk | hk | hk | hk | hk | hk
    · have pre171 : own_Go p e below S0 (Tj1.setTop (mkF m 194 #[.val (.int p1), .val (.int p2), .val (.int ((p1 &&& (2147483647 : Int32)) % (18 : Int32))), .val (.int (p2.toInt16.toInt32)), .val (.ref al), .val (.ref ah), .unset, .unset] [(.int (0 : Int32))])) := by
        intro t kt
        refine pre169 t ?_
        exact castTop (by rw [hk]) kt
      obtain ⟨_, _, ⟨T172, L172, k172, n172⟩, -, X172, ⟨Lc172, hQ172, l172, y172, z172⟩, st172⟩ := Jvm.LawKit.callS Xj1 hx (y := (⟨"com/example/eurybates/eurybates/protocol/ApiKeyImplementsVersionPinLaw", "pick", "(I)Lcom/example/eurybates/eurybates/protocol/ApiKey;"⟩ : MethodName)) hown (mvT hZ (hw _ (own_w 2 rfl))) (mvT hZ (hw _ (own_w 3 rfl))) (mvT hZ (hw _ (own_w 4 rfl))) (mvT hZ (hw _ (own_w 5 rfl))) (by decide) (backOf (W := 0) (rm1n0 l Z a0 hw [] wPRODUCE hj1 n0 zs167 f168 HK.1.1) hZ (hw _ (own_w 5 rfl)) (hw _ (own_w 4 rfl)) (by decide) (by decide)) (g := (mkF m 194 #[.val (.int p1), .val (.int p2), .val (.int ((p1 &&& (2147483647 : Int32)) % (18 : Int32))), .val (.int (p2.toInt16.toInt32)), .val (.ref al), .val (.ref ah), .unset, .unset] [(.int (0 : Int32))])) rfl (by rw [hml]; rfl) (argsL := [(.int (0 : Int32))]) (rest := []) (lenOf pd_0 rfl) rfl (by show 2 * 0 + _ ≤ _; exact Nat.le_of_eq rfl) (hb hby at_194) (fun _ _ => ⟨rfl, ej1, (by decide : 2 + 0 ≤ _), (by decide : 36 + 0 ≤ _)⟩)
      dsimp only [Pt.U, Pt.locs, Pt.cells, Pt.slots] at X172 l172 y172 z172 st172 hQ172
      subst l172 y172 z172
      obtain ⟨rfl, Nq172, eq172⟩ := hQ172
      have N172 := Fr.app Nj1 Nq172
      have pre173 : own_Go p e below S0 (T172.setTop (mkF m 197 #[.val (.int p1), .val (.int p2), .val (.int ((p1 &&& (2147483647 : Int32)) % (18 : Int32))), .val (.int (p2.toInt16.toInt32)), .val (.ref al), .val (.ref ah), .unset, .unset] [(.ref wPRODUCE)])) := by
        intro t kt
        refine pre171 t ?_
        refine st172 _ ?_
        show Steps p.tables e below (T172.setTop (mkF m 197 #[.val (.int p1), .val (.int p2), .val (.int ((p1 &&& (2147483647 : Int32)) % (18 : Int32))), .val (.int (p2.toInt16.toInt32)), .val (.ref al), .val (.ref ah), .unset, .unset] [(.ref wPRODUCE)])) _
        exact kt
      exact ⟨wPRODUCE, (3 : Int32), (7 : Int32), T172, _, (Stand.mono X172 (by decide) (by decide)), N172, eq172, (by rw [hk]; decide), (by rw [hk]; decide), (by rw [hk]; rfl), (by rw [hk]; rfl), (HK.1.2.1.ext f168.2), (HK.1.2.2.1.ext f168.2), (HK.1.2.2.2.ext f168.2), pre173⟩
    · have pre174 : own_Go p e below S0 (Tj1.setTop (mkF m 194 #[.val (.int p1), .val (.int p2), .val (.int ((p1 &&& (2147483647 : Int32)) % (18 : Int32))), .val (.int (p2.toInt16.toInt32)), .val (.ref al), .val (.ref ah), .unset, .unset] [(.int (1 : Int32))])) := by
        intro t kt
        refine pre169 t ?_
        exact castTop (by rw [hk]) kt
      obtain ⟨_, _, ⟨T175, L175, k175, n175⟩, -, X175, ⟨Lc175, hQ175, l175, y175, z175⟩, st175⟩ := Jvm.LawKit.callS Xj1 hx (y := (⟨"com/example/eurybates/eurybates/protocol/ApiKeyImplementsVersionPinLaw", "pick", "(I)Lcom/example/eurybates/eurybates/protocol/ApiKey;"⟩ : MethodName)) hown (mvT hZ (hw _ (own_w 2 rfl))) (mvT hZ (hw _ (own_w 3 rfl))) (mvT hZ (hw _ (own_w 4 rfl))) (mvT hZ (hw _ (own_w 5 rfl))) (by decide) (backOf (W := 0) (rm1n1 l Z a0 hw [] wFETCH hj1 n0 zs167 f168 HK.2.1.1) hZ (hw _ (own_w 5 rfl)) (hw _ (own_w 4 rfl)) (by decide) (by decide)) (g := (mkF m 194 #[.val (.int p1), .val (.int p2), .val (.int ((p1 &&& (2147483647 : Int32)) % (18 : Int32))), .val (.int (p2.toInt16.toInt32)), .val (.ref al), .val (.ref ah), .unset, .unset] [(.int (1 : Int32))])) rfl (by rw [hml]; rfl) (argsL := [(.int (1 : Int32))]) (rest := []) (lenOf pd_0 rfl) rfl (by show 2 * 0 + _ ≤ _; exact Nat.le_of_eq rfl) (hb hby at_194) (fun _ _ => ⟨rfl, ej1, (by decide : 2 + 0 ≤ _), (by decide : 36 + 0 ≤ _)⟩)
      dsimp only [Pt.U, Pt.locs, Pt.cells, Pt.slots] at X175 l175 y175 z175 st175 hQ175
      subst l175 y175 z175
      obtain ⟨rfl, Nq175, eq175⟩ := hQ175
      have N175 := Fr.app Nj1 Nq175
      have pre176 : own_Go p e below S0 (T175.setTop (mkF m 197 #[.val (.int p1), .val (.int p2), .val (.int ((p1 &&& (2147483647 : Int32)) % (18 : Int32))), .val (.int (p2.toInt16.toInt32)), .val (.ref al), .val (.ref ah), .unset, .unset] [(.ref wFETCH)])) := by
        intro t kt
        refine pre174 t ?_
        refine st175 _ ?_
        show Steps p.tables e below (T175.setTop (mkF m 197 #[.val (.int p1), .val (.int p2), .val (.int ((p1 &&& (2147483647 : Int32)) % (18 : Int32))), .val (.int (p2.toInt16.toInt32)), .val (.ref al), .val (.ref ah), .unset, .unset] [(.ref wFETCH)])) _
        exact kt
      exact ⟨wFETCH, (4 : Int32), (11 : Int32), T175, _, (Stand.mono X175 (by decide) (by decide)), N175, eq175, (by rw [hk]; decide), (by rw [hk]; decide), (by rw [hk]; rfl), (by rw [hk]; rfl), (HK.2.1.2.1.ext f168.2), (HK.2.1.2.2.1.ext f168.2), (HK.2.1.2.2.2.ext f168.2), pre176⟩
    · have pre177 : own_Go p e below S0 (Tj1.setTop (mkF m 194 #[.val (.int p1), .val (.int p2), .val (.int ((p1 &&& (2147483647 : Int32)) % (18 : Int32))), .val (.int (p2.toInt16.toInt32)), .val (.ref al), .val (.ref ah), .unset, .unset] [(.int (2 : Int32))])) := by
        intro t kt
        refine pre169 t ?_
        exact castTop (by rw [hk]) kt
      obtain ⟨_, _, ⟨T178, L178, k178, n178⟩, -, X178, ⟨Lc178, hQ178, l178, y178, z178⟩, st178⟩ := Jvm.LawKit.callS Xj1 hx (y := (⟨"com/example/eurybates/eurybates/protocol/ApiKeyImplementsVersionPinLaw", "pick", "(I)Lcom/example/eurybates/eurybates/protocol/ApiKey;"⟩ : MethodName)) hown (mvT hZ (hw _ (own_w 2 rfl))) (mvT hZ (hw _ (own_w 3 rfl))) (mvT hZ (hw _ (own_w 4 rfl))) (mvT hZ (hw _ (own_w 5 rfl))) (by decide) (backOf (W := 0) (rm1n2 l Z a0 hw [] wLIST_OFFSETS hj1 n0 zs167 f168 HK.2.2.1.1) hZ (hw _ (own_w 5 rfl)) (hw _ (own_w 4 rfl)) (by decide) (by decide)) (g := (mkF m 194 #[.val (.int p1), .val (.int p2), .val (.int ((p1 &&& (2147483647 : Int32)) % (18 : Int32))), .val (.int (p2.toInt16.toInt32)), .val (.ref al), .val (.ref ah), .unset, .unset] [(.int (2 : Int32))])) rfl (by rw [hml]; rfl) (argsL := [(.int (2 : Int32))]) (rest := []) (lenOf pd_0 rfl) rfl (by show 2 * 0 + _ ≤ _; exact Nat.le_of_eq rfl) (hb hby at_194) (fun _ _ => ⟨rfl, ej1, (by decide : 2 + 0 ≤ _), (by decide : 36 + 0 ≤ _)⟩)
      dsimp only [Pt.U, Pt.locs, Pt.cells, Pt.slots] at X178 l178 y178 z178 st178 hQ178
      subst l178 y178 z178
      obtain ⟨rfl, Nq178, eq178⟩ := hQ178
      have N178 := Fr.app Nj1 Nq178
      have pre179 : own_Go p e below S0 (T178.setTop (mkF m 197 #[.val (.int p1), .val (.int p2), .val (.int ((p1 &&& (2147483647 : Int32)) % (18 : Int32))), .val (.int (p2.toInt16.toInt32)), .val (.ref al), .val (.ref ah), .unset, .unset] [(.ref wLIST_OFFSETS)])) := by
        intro t kt
        refine pre177 t ?_
        refine st178 _ ?_
        show Steps p.tables e below (T178.setTop (mkF m 197 #[.val (.int p1), .val (.int p2), .val (.int ((p1 &&& (2147483647 : Int32)) % (18 : Int32))), .val (.int (p2.toInt16.toInt32)), .val (.ref al), .val (.ref ah), .unset, .unset] [(.ref wLIST_OFFSETS)])) _
        exact kt
      exact ⟨wLIST_OFFSETS, (1 : Int32), (2 : Int32), T178, _, (Stand.mono X178 (by decide) (by decide)), N178, eq178, (by rw [hk]; decide), (by rw [hk]; decide), (by rw [hk]; rfl), (by rw [hk]; rfl), (HK.2.2.1.2.1.ext f168.2), (HK.2.2.1.2.2.1.ext f168.2), (HK.2.2.1.2.2.2.ext f168.2), pre179⟩
    · have pre180 : own_Go p e below S0 (Tj1.setTop (mkF m 194 #[.val (.int p1), .val (.int p2), .val (.int ((p1 &&& (2147483647 : Int32)) % (18 : Int32))), .val (.int (p2.toInt16.toInt32)), .val (.ref al), .val (.ref ah), .unset, .unset] [(.int (3 : Int32))])) := by
        intro t kt
        refine pre169 t ?_
        exact castTop (by rw [hk]) kt
      obtain ⟨_, _, ⟨T181, L181, k181, n181⟩, -, X181, ⟨Lc181, hQ181, l181, y181, z181⟩, st181⟩ := Jvm.LawKit.callS Xj1 hx (y := (⟨"com/example/eurybates/eurybates/protocol/ApiKeyImplementsVersionPinLaw", "pick", "(I)Lcom/example/eurybates/eurybates/protocol/ApiKey;"⟩ : MethodName)) hown (mvT hZ (hw _ (own_w 2 rfl))) (mvT hZ (hw _ (own_w 3 rfl))) (mvT hZ (hw _ (own_w 4 rfl))) (mvT hZ (hw _ (own_w 5 rfl))) (by decide) (backOf (W := 0) (rm1n3 l Z a0 hw [] wMETADATA hj1 n0 zs167 f168 HK.2.2.2.1.1) hZ (hw _ (own_w 5 rfl)) (hw _ (own_w 4 rfl)) (by decide) (by decide)) (g := (mkF m 194 #[.val (.int p1), .val (.int p2), .val (.int ((p1 &&& (2147483647 : Int32)) % (18 : Int32))), .val (.int (p2.toInt16.toInt32)), .val (.ref al), .val (.ref ah), .unset, .unset] [(.int (3 : Int32))])) rfl (by rw [hml]; rfl) (argsL := [(.int (3 : Int32))]) (rest := []) (lenOf pd_0 rfl) rfl (by show 2 * 0 + _ ≤ _; exact Nat.le_of_eq rfl) (hb hby at_194) (fun _ _ => ⟨rfl, ej1, (by decide : 2 + 0 ≤ _), (by decide : 36 + 0 ≤ _)⟩)
      dsimp only [Pt.U, Pt.locs, Pt.cells, Pt.slots] at X181 l181 y181 z181 st181 hQ181
      subst l181 y181 z181
      obtain ⟨rfl, Nq181, eq181⟩ := hQ181
      have N181 := Fr.app Nj1 Nq181
      have pre182 : own_Go p e below S0 (T181.setTop (mkF m 197 #[.val (.int p1), .val (.int p2), .val (.int ((p1 &&& (2147483647 : Int32)) % (18 : Int32))), .val (.int (p2.toInt16.toInt32)), .val (.ref al), .val (.ref ah), .unset, .unset] [(.ref wMETADATA)])) := by
        intro t kt
        refine pre180 t ?_
        refine st181 _ ?_
        show Steps p.tables e below (T181.setTop (mkF m 197 #[.val (.int p1), .val (.int p2), .val (.int ((p1 &&& (2147483647 : Int32)) % (18 : Int32))), .val (.int (p2.toInt16.toInt32)), .val (.ref al), .val (.ref ah), .unset, .unset] [(.ref wMETADATA)])) _
        exact kt
      exact ⟨wMETADATA, (0 : Int32), (4 : Int32), T181, _, (Stand.mono X181 (by decide) (by decide)), N181, eq181, (by rw [hk]; decide), (by rw [hk]; decide), (by rw [hk]; rfl), (by rw [hk]; rfl), (HK.2.2.2.1.2.1.ext f168.2), (HK.2.2.2.1.2.2.1.ext f168.2), (HK.2.2.2.1.2.2.2.ext f168.2), pre182⟩
    · have pre183 : own_Go p e below S0 (Tj1.setTop (mkF m 194 #[.val (.int p1), .val (.int p2), .val (.int ((p1 &&& (2147483647 : Int32)) % (18 : Int32))), .val (.int (p2.toInt16.toInt32)), .val (.ref al), .val (.ref ah), .unset, .unset] [(.int (4 : Int32))])) := by
        intro t kt
        refine pre169 t ?_
        exact castTop (by rw [hk]) kt
      obtain ⟨_, _, ⟨T184, L184, k184, n184⟩, -, X184, ⟨Lc184, hQ184, l184, y184, z184⟩, st184⟩ := Jvm.LawKit.callS Xj1 hx (y := (⟨"com/example/eurybates/eurybates/protocol/ApiKeyImplementsVersionPinLaw", "pick", "(I)Lcom/example/eurybates/eurybates/protocol/ApiKey;"⟩ : MethodName)) hown (mvT hZ (hw _ (own_w 2 rfl))) (mvT hZ (hw _ (own_w 3 rfl))) (mvT hZ (hw _ (own_w 4 rfl))) (mvT hZ (hw _ (own_w 5 rfl))) (by decide) (backOf (W := 0) (rm1n4 l Z a0 hw [] wOFFSET_COMMIT hj1 n0 zs167 f168 HK.2.2.2.2.1.1) hZ (hw _ (own_w 5 rfl)) (hw _ (own_w 4 rfl)) (by decide) (by decide)) (g := (mkF m 194 #[.val (.int p1), .val (.int p2), .val (.int ((p1 &&& (2147483647 : Int32)) % (18 : Int32))), .val (.int (p2.toInt16.toInt32)), .val (.ref al), .val (.ref ah), .unset, .unset] [(.int (4 : Int32))])) rfl (by rw [hml]; rfl) (argsL := [(.int (4 : Int32))]) (rest := []) (lenOf pd_0 rfl) rfl (by show 2 * 0 + _ ≤ _; exact Nat.le_of_eq rfl) (hb hby at_194) (fun _ _ => ⟨rfl, ej1, (by decide : 2 + 0 ≤ _), (by decide : 36 + 0 ≤ _)⟩)
      dsimp only [Pt.U, Pt.locs, Pt.cells, Pt.slots] at X184 l184 y184 z184 st184 hQ184
      subst l184 y184 z184
      obtain ⟨rfl, Nq184, eq184⟩ := hQ184
      have N184 := Fr.app Nj1 Nq184
      have pre185 : own_Go p e below S0 (T184.setTop (mkF m 197 #[.val (.int p1), .val (.int p2), .val (.int ((p1 &&& (2147483647 : Int32)) % (18 : Int32))), .val (.int (p2.toInt16.toInt32)), .val (.ref al), .val (.ref ah), .unset, .unset] [(.ref wOFFSET_COMMIT)])) := by
        intro t kt
        refine pre183 t ?_
        refine st184 _ ?_
        show Steps p.tables e below (T184.setTop (mkF m 197 #[.val (.int p1), .val (.int p2), .val (.int ((p1 &&& (2147483647 : Int32)) % (18 : Int32))), .val (.int (p2.toInt16.toInt32)), .val (.ref al), .val (.ref ah), .unset, .unset] [(.ref wOFFSET_COMMIT)])) _
        exact kt
      exact ⟨wOFFSET_COMMIT, (2 : Int32), (2 : Int32), T184, _, (Stand.mono X184 (by decide) (by decide)), N184, eq184, (by rw [hk]; decide), (by rw [hk]; decide), (by rw [hk]; rfl), (by rw [hk]; rfl), (HK.2.2.2.2.1.2.1.ext f168.2), (HK.2.2.2.2.1.2.2.1.ext f168.2), (HK.2.2.2.2.1.2.2.2.ext f168.2), pre185⟩
    · have pre186 : own_Go p e below S0 (Tj1.setTop (mkF m 194 #[.val (.int p1), .val (.int p2), .val (.int ((p1 &&& (2147483647 : Int32)) % (18 : Int32))), .val (.int (p2.toInt16.toInt32)), .val (.ref al), .val (.ref ah), .unset, .unset] [(.int (5 : Int32))])) := by
        intro t kt
        refine pre169 t ?_
        exact castTop (by rw [hk]) kt
      obtain ⟨_, _, ⟨T187, L187, k187, n187⟩, -, X187, ⟨Lc187, hQ187, l187, y187, z187⟩, st187⟩ := Jvm.LawKit.callS Xj1 hx (y := (⟨"com/example/eurybates/eurybates/protocol/ApiKeyImplementsVersionPinLaw", "pick", "(I)Lcom/example/eurybates/eurybates/protocol/ApiKey;"⟩ : MethodName)) hown (mvT hZ (hw _ (own_w 2 rfl))) (mvT hZ (hw _ (own_w 3 rfl))) (mvT hZ (hw _ (own_w 4 rfl))) (mvT hZ (hw _ (own_w 5 rfl))) (by decide) (backOf (W := 0) (rm1n5 l Z a0 hw [] wOFFSET_FETCH hj1 n0 zs167 f168 HK.2.2.2.2.2.1.1) hZ (hw _ (own_w 5 rfl)) (hw _ (own_w 4 rfl)) (by decide) (by decide)) (g := (mkF m 194 #[.val (.int p1), .val (.int p2), .val (.int ((p1 &&& (2147483647 : Int32)) % (18 : Int32))), .val (.int (p2.toInt16.toInt32)), .val (.ref al), .val (.ref ah), .unset, .unset] [(.int (5 : Int32))])) rfl (by rw [hml]; rfl) (argsL := [(.int (5 : Int32))]) (rest := []) (lenOf pd_0 rfl) rfl (by show 2 * 0 + _ ≤ _; exact Nat.le_of_eq rfl) (hb hby at_194) (fun _ _ => ⟨rfl, ej1, (by decide : 2 + 0 ≤ _), (by decide : 36 + 0 ≤ _)⟩)
      dsimp only [Pt.U, Pt.locs, Pt.cells, Pt.slots] at X187 l187 y187 z187 st187 hQ187
      subst l187 y187 z187
      obtain ⟨rfl, Nq187, eq187⟩ := hQ187
      have N187 := Fr.app Nj1 Nq187
      have pre188 : own_Go p e below S0 (T187.setTop (mkF m 197 #[.val (.int p1), .val (.int p2), .val (.int ((p1 &&& (2147483647 : Int32)) % (18 : Int32))), .val (.int (p2.toInt16.toInt32)), .val (.ref al), .val (.ref ah), .unset, .unset] [(.ref wOFFSET_FETCH)])) := by
        intro t kt
        refine pre186 t ?_
        refine st187 _ ?_
        show Steps p.tables e below (T187.setTop (mkF m 197 #[.val (.int p1), .val (.int p2), .val (.int ((p1 &&& (2147483647 : Int32)) % (18 : Int32))), .val (.int (p2.toInt16.toInt32)), .val (.ref al), .val (.ref ah), .unset, .unset] [(.ref wOFFSET_FETCH)])) _
        exact kt
      exact ⟨wOFFSET_FETCH, (1 : Int32), (5 : Int32), T187, _, (Stand.mono X187 (by decide) (by decide)), N187, eq187, (by rw [hk]; decide), (by rw [hk]; decide), (by rw [hk]; rfl), (by rw [hk]; rfl), (HK.2.2.2.2.2.1.2.1.ext f168.2), (HK.2.2.2.2.2.1.2.2.1.ext f168.2), (HK.2.2.2.2.2.1.2.2.2.ext f168.2), pre188⟩
    · have pre189 : own_Go p e below S0 (Tj1.setTop (mkF m 194 #[.val (.int p1), .val (.int p2), .val (.int ((p1 &&& (2147483647 : Int32)) % (18 : Int32))), .val (.int (p2.toInt16.toInt32)), .val (.ref al), .val (.ref ah), .unset, .unset] [(.int (6 : Int32))])) := by
        intro t kt
        refine pre169 t ?_
        exact castTop (by rw [hk]) kt
      obtain ⟨_, _, ⟨T190, L190, k190, n190⟩, -, X190, ⟨Lc190, hQ190, l190, y190, z190⟩, st190⟩ := Jvm.LawKit.callS Xj1 hx (y := (⟨"com/example/eurybates/eurybates/protocol/ApiKeyImplementsVersionPinLaw", "pick", "(I)Lcom/example/eurybates/eurybates/protocol/ApiKey;"⟩ : MethodName)) hown (mvT hZ (hw _ (own_w 2 rfl))) (mvT hZ (hw _ (own_w 3 rfl))) (mvT hZ (hw _ (own_w 4 rfl))) (mvT hZ (hw _ (own_w 5 rfl))) (by decide) (backOf (W := 0) (rm1n6 l Z a0 hw [] wFIND_COORDINATOR hj1 n0 zs167 f168 HK.2.2.2.2.2.2.1.1) hZ (hw _ (own_w 5 rfl)) (hw _ (own_w 4 rfl)) (by decide) (by decide)) (g := (mkF m 194 #[.val (.int p1), .val (.int p2), .val (.int ((p1 &&& (2147483647 : Int32)) % (18 : Int32))), .val (.int (p2.toInt16.toInt32)), .val (.ref al), .val (.ref ah), .unset, .unset] [(.int (6 : Int32))])) rfl (by rw [hml]; rfl) (argsL := [(.int (6 : Int32))]) (rest := []) (lenOf pd_0 rfl) rfl (by show 2 * 0 + _ ≤ _; exact Nat.le_of_eq rfl) (hb hby at_194) (fun _ _ => ⟨rfl, ej1, (by decide : 2 + 0 ≤ _), (by decide : 36 + 0 ≤ _)⟩)
      dsimp only [Pt.U, Pt.locs, Pt.cells, Pt.slots] at X190 l190 y190 z190 st190 hQ190
      subst l190 y190 z190
      obtain ⟨rfl, Nq190, eq190⟩ := hQ190
      have N190 := Fr.app Nj1 Nq190
      have pre191 : own_Go p e below S0 (T190.setTop (mkF m 197 #[.val (.int p1), .val (.int p2), .val (.int ((p1 &&& (2147483647 : Int32)) % (18 : Int32))), .val (.int (p2.toInt16.toInt32)), .val (.ref al), .val (.ref ah), .unset, .unset] [(.ref wFIND_COORDINATOR)])) := by
        intro t kt
        refine pre189 t ?_
        refine st190 _ ?_
        show Steps p.tables e below (T190.setTop (mkF m 197 #[.val (.int p1), .val (.int p2), .val (.int ((p1 &&& (2147483647 : Int32)) % (18 : Int32))), .val (.int (p2.toInt16.toInt32)), .val (.ref al), .val (.ref ah), .unset, .unset] [(.ref wFIND_COORDINATOR)])) _
        exact kt
      exact ⟨wFIND_COORDINATOR, (0 : Int32), (0 : Int32), T190, _, (Stand.mono X190 (by decide) (by decide)), N190, eq190, (by rw [hk]; decide), (by rw [hk]; decide), (by rw [hk]; rfl), (by rw [hk]; rfl), (HK.2.2.2.2.2.2.1.2.1.ext f168.2), (HK.2.2.2.2.2.2.1.2.2.1.ext f168.2), (HK.2.2.2.2.2.2.1.2.2.2.ext f168.2), pre191⟩
    · have pre192 : own_Go p e below S0 (Tj1.setTop (mkF m 194 #[.val (.int p1), .val (.int p2), .val (.int ((p1 &&& (2147483647 : Int32)) % (18 : Int32))), .val (.int (p2.toInt16.toInt32)), .val (.ref al), .val (.ref ah), .unset, .unset] [(.int (7 : Int32))])) := by
        intro t kt
        refine pre169 t ?_
        exact castTop (by rw [hk]) kt
      obtain ⟨_, _, ⟨T193, L193, k193, n193⟩, -, X193, ⟨Lc193, hQ193, l193, y193, z193⟩, st193⟩ := Jvm.LawKit.callS Xj1 hx (y := (⟨"com/example/eurybates/eurybates/protocol/ApiKeyImplementsVersionPinLaw", "pick", "(I)Lcom/example/eurybates/eurybates/protocol/ApiKey;"⟩ : MethodName)) hown (mvT hZ (hw _ (own_w 2 rfl))) (mvT hZ (hw _ (own_w 3 rfl))) (mvT hZ (hw _ (own_w 4 rfl))) (mvT hZ (hw _ (own_w 5 rfl))) (by decide) (backOf (W := 0) (rm1n7 l Z a0 hw [] wJOIN_GROUP hj1 n0 zs167 f168 HK.2.2.2.2.2.2.2.1.1) hZ (hw _ (own_w 5 rfl)) (hw _ (own_w 4 rfl)) (by decide) (by decide)) (g := (mkF m 194 #[.val (.int p1), .val (.int p2), .val (.int ((p1 &&& (2147483647 : Int32)) % (18 : Int32))), .val (.int (p2.toInt16.toInt32)), .val (.ref al), .val (.ref ah), .unset, .unset] [(.int (7 : Int32))])) rfl (by rw [hml]; rfl) (argsL := [(.int (7 : Int32))]) (rest := []) (lenOf pd_0 rfl) rfl (by show 2 * 0 + _ ≤ _; exact Nat.le_of_eq rfl) (hb hby at_194) (fun _ _ => ⟨rfl, ej1, (by decide : 2 + 0 ≤ _), (by decide : 36 + 0 ≤ _)⟩)
      dsimp only [Pt.U, Pt.locs, Pt.cells, Pt.slots] at X193 l193 y193 z193 st193 hQ193
      subst l193 y193 z193
      obtain ⟨rfl, Nq193, eq193⟩ := hQ193
      have N193 := Fr.app Nj1 Nq193
      have pre194 : own_Go p e below S0 (T193.setTop (mkF m 197 #[.val (.int p1), .val (.int p2), .val (.int ((p1 &&& (2147483647 : Int32)) % (18 : Int32))), .val (.int (p2.toInt16.toInt32)), .val (.ref al), .val (.ref ah), .unset, .unset] [(.ref wJOIN_GROUP)])) := by
        intro t kt
        refine pre192 t ?_
        refine st193 _ ?_
        show Steps p.tables e below (T193.setTop (mkF m 197 #[.val (.int p1), .val (.int p2), .val (.int ((p1 &&& (2147483647 : Int32)) % (18 : Int32))), .val (.int (p2.toInt16.toInt32)), .val (.ref al), .val (.ref ah), .unset, .unset] [(.ref wJOIN_GROUP)])) _
        exact kt
      exact ⟨wJOIN_GROUP, (2 : Int32), (2 : Int32), T193, _, (Stand.mono X193 (by decide) (by decide)), N193, eq193, (by rw [hk]; decide), (by rw [hk]; decide), (by rw [hk]; rfl), (by rw [hk]; rfl), (HK.2.2.2.2.2.2.2.1.2.1.ext f168.2), (HK.2.2.2.2.2.2.2.1.2.2.1.ext f168.2), (HK.2.2.2.2.2.2.2.1.2.2.2.ext f168.2), pre194⟩
    · have pre195 : own_Go p e below S0 (Tj1.setTop (mkF m 194 #[.val (.int p1), .val (.int p2), .val (.int ((p1 &&& (2147483647 : Int32)) % (18 : Int32))), .val (.int (p2.toInt16.toInt32)), .val (.ref al), .val (.ref ah), .unset, .unset] [(.int (8 : Int32))])) := by
        intro t kt
        refine pre169 t ?_
        exact castTop (by rw [hk]) kt
      obtain ⟨_, _, ⟨T196, L196, k196, n196⟩, -, X196, ⟨Lc196, hQ196, l196, y196, z196⟩, st196⟩ := Jvm.LawKit.callS Xj1 hx (y := (⟨"com/example/eurybates/eurybates/protocol/ApiKeyImplementsVersionPinLaw", "pick", "(I)Lcom/example/eurybates/eurybates/protocol/ApiKey;"⟩ : MethodName)) hown (mvT hZ (hw _ (own_w 2 rfl))) (mvT hZ (hw _ (own_w 3 rfl))) (mvT hZ (hw _ (own_w 4 rfl))) (mvT hZ (hw _ (own_w 5 rfl))) (by decide) (backOf (W := 0) (rm1n8 l Z a0 hw [] wHEARTBEAT hj1 n0 zs167 f168 HK.2.2.2.2.2.2.2.2.1.1) hZ (hw _ (own_w 5 rfl)) (hw _ (own_w 4 rfl)) (by decide) (by decide)) (g := (mkF m 194 #[.val (.int p1), .val (.int p2), .val (.int ((p1 &&& (2147483647 : Int32)) % (18 : Int32))), .val (.int (p2.toInt16.toInt32)), .val (.ref al), .val (.ref ah), .unset, .unset] [(.int (8 : Int32))])) rfl (by rw [hml]; rfl) (argsL := [(.int (8 : Int32))]) (rest := []) (lenOf pd_0 rfl) rfl (by show 2 * 0 + _ ≤ _; exact Nat.le_of_eq rfl) (hb hby at_194) (fun _ _ => ⟨rfl, ej1, (by decide : 2 + 0 ≤ _), (by decide : 36 + 0 ≤ _)⟩)
      dsimp only [Pt.U, Pt.locs, Pt.cells, Pt.slots] at X196 l196 y196 z196 st196 hQ196
      subst l196 y196 z196
      obtain ⟨rfl, Nq196, eq196⟩ := hQ196
      have N196 := Fr.app Nj1 Nq196
      have pre197 : own_Go p e below S0 (T196.setTop (mkF m 197 #[.val (.int p1), .val (.int p2), .val (.int ((p1 &&& (2147483647 : Int32)) % (18 : Int32))), .val (.int (p2.toInt16.toInt32)), .val (.ref al), .val (.ref ah), .unset, .unset] [(.ref wHEARTBEAT)])) := by
        intro t kt
        refine pre195 t ?_
        refine st196 _ ?_
        show Steps p.tables e below (T196.setTop (mkF m 197 #[.val (.int p1), .val (.int p2), .val (.int ((p1 &&& (2147483647 : Int32)) % (18 : Int32))), .val (.int (p2.toInt16.toInt32)), .val (.ref al), .val (.ref ah), .unset, .unset] [(.ref wHEARTBEAT)])) _
        exact kt
      exact ⟨wHEARTBEAT, (1 : Int32), (1 : Int32), T196, _, (Stand.mono X196 (by decide) (by decide)), N196, eq196, (by rw [hk]; decide), (by rw [hk]; decide), (by rw [hk]; rfl), (by rw [hk]; rfl), (HK.2.2.2.2.2.2.2.2.1.2.1.ext f168.2), (HK.2.2.2.2.2.2.2.2.1.2.2.1.ext f168.2), (HK.2.2.2.2.2.2.2.2.1.2.2.2.ext f168.2), pre197⟩
    · have pre198 : own_Go p e below S0 (Tj1.setTop (mkF m 194 #[.val (.int p1), .val (.int p2), .val (.int ((p1 &&& (2147483647 : Int32)) % (18 : Int32))), .val (.int (p2.toInt16.toInt32)), .val (.ref al), .val (.ref ah), .unset, .unset] [(.int (9 : Int32))])) := by
        intro t kt
        refine pre169 t ?_
        exact castTop (by rw [hk]) kt
      obtain ⟨_, _, ⟨T199, L199, k199, n199⟩, -, X199, ⟨Lc199, hQ199, l199, y199, z199⟩, st199⟩ := Jvm.LawKit.callS Xj1 hx (y := (⟨"com/example/eurybates/eurybates/protocol/ApiKeyImplementsVersionPinLaw", "pick", "(I)Lcom/example/eurybates/eurybates/protocol/ApiKey;"⟩ : MethodName)) hown (mvT hZ (hw _ (own_w 2 rfl))) (mvT hZ (hw _ (own_w 3 rfl))) (mvT hZ (hw _ (own_w 4 rfl))) (mvT hZ (hw _ (own_w 5 rfl))) (by decide) (backOf (W := 0) (rm1n9 l Z a0 hw [] wLEAVE_GROUP hj1 n0 zs167 f168 HK.2.2.2.2.2.2.2.2.2.1.1) hZ (hw _ (own_w 5 rfl)) (hw _ (own_w 4 rfl)) (by decide) (by decide)) (g := (mkF m 194 #[.val (.int p1), .val (.int p2), .val (.int ((p1 &&& (2147483647 : Int32)) % (18 : Int32))), .val (.int (p2.toInt16.toInt32)), .val (.ref al), .val (.ref ah), .unset, .unset] [(.int (9 : Int32))])) rfl (by rw [hml]; rfl) (argsL := [(.int (9 : Int32))]) (rest := []) (lenOf pd_0 rfl) rfl (by show 2 * 0 + _ ≤ _; exact Nat.le_of_eq rfl) (hb hby at_194) (fun _ _ => ⟨rfl, ej1, (by decide : 2 + 0 ≤ _), (by decide : 36 + 0 ≤ _)⟩)
      dsimp only [Pt.U, Pt.locs, Pt.cells, Pt.slots] at X199 l199 y199 z199 st199 hQ199
      subst l199 y199 z199
      obtain ⟨rfl, Nq199, eq199⟩ := hQ199
      have N199 := Fr.app Nj1 Nq199
      have pre200 : own_Go p e below S0 (T199.setTop (mkF m 197 #[.val (.int p1), .val (.int p2), .val (.int ((p1 &&& (2147483647 : Int32)) % (18 : Int32))), .val (.int (p2.toInt16.toInt32)), .val (.ref al), .val (.ref ah), .unset, .unset] [(.ref wLEAVE_GROUP)])) := by
        intro t kt
        refine pre198 t ?_
        refine st199 _ ?_
        show Steps p.tables e below (T199.setTop (mkF m 197 #[.val (.int p1), .val (.int p2), .val (.int ((p1 &&& (2147483647 : Int32)) % (18 : Int32))), .val (.int (p2.toInt16.toInt32)), .val (.ref al), .val (.ref ah), .unset, .unset] [(.ref wLEAVE_GROUP)])) _
        exact kt
      exact ⟨wLEAVE_GROUP, (1 : Int32), (1 : Int32), T199, _, (Stand.mono X199 (by decide) (by decide)), N199, eq199, (by rw [hk]; decide), (by rw [hk]; decide), (by rw [hk]; rfl), (by rw [hk]; rfl), (HK.2.2.2.2.2.2.2.2.2.1.2.1.ext f168.2), (HK.2.2.2.2.2.2.2.2.2.1.2.2.1.ext f168.2), (HK.2.2.2.2.2.2.2.2.2.1.2.2.2.ext f168.2), pre200⟩
    · have pre201 : own_Go p e below S0 (Tj1.setTop (mkF m 194 #[.val (.int p1), .val (.int p2), .val (.int ((p1 &&& (2147483647 : Int32)) % (18 : Int32))), .val (.int (p2.toInt16.toInt32)), .val (.ref al), .val (.ref ah), .unset, .unset] [(.int (10 : Int32))])) := by
        intro t kt
        refine pre169 t ?_
        exact castTop (by rw [hk]) kt
      obtain ⟨_, _, ⟨T202, L202, k202, n202⟩, -, X202, ⟨Lc202, hQ202, l202, y202, z202⟩, st202⟩ := Jvm.LawKit.callS Xj1 hx (y := (⟨"com/example/eurybates/eurybates/protocol/ApiKeyImplementsVersionPinLaw", "pick", "(I)Lcom/example/eurybates/eurybates/protocol/ApiKey;"⟩ : MethodName)) hown (mvT hZ (hw _ (own_w 2 rfl))) (mvT hZ (hw _ (own_w 3 rfl))) (mvT hZ (hw _ (own_w 4 rfl))) (mvT hZ (hw _ (own_w 5 rfl))) (by decide) (backOf (W := 0) (rm1n10 l Z a0 hw [] wSYNC_GROUP hj1 n0 zs167 f168 HK.2.2.2.2.2.2.2.2.2.2.1.1) hZ (hw _ (own_w 5 rfl)) (hw _ (own_w 4 rfl)) (by decide) (by decide)) (g := (mkF m 194 #[.val (.int p1), .val (.int p2), .val (.int ((p1 &&& (2147483647 : Int32)) % (18 : Int32))), .val (.int (p2.toInt16.toInt32)), .val (.ref al), .val (.ref ah), .unset, .unset] [(.int (10 : Int32))])) rfl (by rw [hml]; rfl) (argsL := [(.int (10 : Int32))]) (rest := []) (lenOf pd_0 rfl) rfl (by show 2 * 0 + _ ≤ _; exact Nat.le_of_eq rfl) (hb hby at_194) (fun _ _ => ⟨rfl, ej1, (by decide : 2 + 0 ≤ _), (by decide : 36 + 0 ≤ _)⟩)
      dsimp only [Pt.U, Pt.locs, Pt.cells, Pt.slots] at X202 l202 y202 z202 st202 hQ202
      subst l202 y202 z202
      obtain ⟨rfl, Nq202, eq202⟩ := hQ202
      have N202 := Fr.app Nj1 Nq202
      have pre203 : own_Go p e below S0 (T202.setTop (mkF m 197 #[.val (.int p1), .val (.int p2), .val (.int ((p1 &&& (2147483647 : Int32)) % (18 : Int32))), .val (.int (p2.toInt16.toInt32)), .val (.ref al), .val (.ref ah), .unset, .unset] [(.ref wSYNC_GROUP)])) := by
        intro t kt
        refine pre201 t ?_
        refine st202 _ ?_
        show Steps p.tables e below (T202.setTop (mkF m 197 #[.val (.int p1), .val (.int p2), .val (.int ((p1 &&& (2147483647 : Int32)) % (18 : Int32))), .val (.int (p2.toInt16.toInt32)), .val (.ref al), .val (.ref ah), .unset, .unset] [(.ref wSYNC_GROUP)])) _
        exact kt
      exact ⟨wSYNC_GROUP, (1 : Int32), (1 : Int32), T202, _, (Stand.mono X202 (by decide) (by decide)), N202, eq202, (by rw [hk]; decide), (by rw [hk]; decide), (by rw [hk]; rfl), (by rw [hk]; rfl), (HK.2.2.2.2.2.2.2.2.2.2.1.2.1.ext f168.2), (HK.2.2.2.2.2.2.2.2.2.2.1.2.2.1.ext f168.2), (HK.2.2.2.2.2.2.2.2.2.2.1.2.2.2.ext f168.2), pre203⟩
    · have pre204 : own_Go p e below S0 (Tj1.setTop (mkF m 194 #[.val (.int p1), .val (.int p2), .val (.int ((p1 &&& (2147483647 : Int32)) % (18 : Int32))), .val (.int (p2.toInt16.toInt32)), .val (.ref al), .val (.ref ah), .unset, .unset] [(.int (11 : Int32))])) := by
        intro t kt
        refine pre169 t ?_
        exact castTop (by rw [hk]) kt
      obtain ⟨_, _, ⟨T205, L205, k205, n205⟩, -, X205, ⟨Lc205, hQ205, l205, y205, z205⟩, st205⟩ := Jvm.LawKit.callS Xj1 hx (y := (⟨"com/example/eurybates/eurybates/protocol/ApiKeyImplementsVersionPinLaw", "pick", "(I)Lcom/example/eurybates/eurybates/protocol/ApiKey;"⟩ : MethodName)) hown (mvT hZ (hw _ (own_w 2 rfl))) (mvT hZ (hw _ (own_w 3 rfl))) (mvT hZ (hw _ (own_w 4 rfl))) (mvT hZ (hw _ (own_w 5 rfl))) (by decide) (backOf (W := 0) (rm1n11 l Z a0 hw [] wDESCRIBE_GROUPS hj1 n0 zs167 f168 HK.2.2.2.2.2.2.2.2.2.2.2.1.1) hZ (hw _ (own_w 5 rfl)) (hw _ (own_w 4 rfl)) (by decide) (by decide)) (g := (mkF m 194 #[.val (.int p1), .val (.int p2), .val (.int ((p1 &&& (2147483647 : Int32)) % (18 : Int32))), .val (.int (p2.toInt16.toInt32)), .val (.ref al), .val (.ref ah), .unset, .unset] [(.int (11 : Int32))])) rfl (by rw [hml]; rfl) (argsL := [(.int (11 : Int32))]) (rest := []) (lenOf pd_0 rfl) rfl (by show 2 * 0 + _ ≤ _; exact Nat.le_of_eq rfl) (hb hby at_194) (fun _ _ => ⟨rfl, ej1, (by decide : 2 + 0 ≤ _), (by decide : 36 + 0 ≤ _)⟩)
      dsimp only [Pt.U, Pt.locs, Pt.cells, Pt.slots] at X205 l205 y205 z205 st205 hQ205
      subst l205 y205 z205
      obtain ⟨rfl, Nq205, eq205⟩ := hQ205
      have N205 := Fr.app Nj1 Nq205
      have pre206 : own_Go p e below S0 (T205.setTop (mkF m 197 #[.val (.int p1), .val (.int p2), .val (.int ((p1 &&& (2147483647 : Int32)) % (18 : Int32))), .val (.int (p2.toInt16.toInt32)), .val (.ref al), .val (.ref ah), .unset, .unset] [(.ref wDESCRIBE_GROUPS)])) := by
        intro t kt
        refine pre204 t ?_
        refine st205 _ ?_
        show Steps p.tables e below (T205.setTop (mkF m 197 #[.val (.int p1), .val (.int p2), .val (.int ((p1 &&& (2147483647 : Int32)) % (18 : Int32))), .val (.int (p2.toInt16.toInt32)), .val (.ref al), .val (.ref ah), .unset, .unset] [(.ref wDESCRIBE_GROUPS)])) _
        exact kt
      exact ⟨wDESCRIBE_GROUPS, (0 : Int32), (4 : Int32), T205, _, (Stand.mono X205 (by decide) (by decide)), N205, eq205, (by rw [hk]; decide), (by rw [hk]; decide), (by rw [hk]; rfl), (by rw [hk]; rfl), (HK.2.2.2.2.2.2.2.2.2.2.2.1.2.1.ext f168.2), (HK.2.2.2.2.2.2.2.2.2.2.2.1.2.2.1.ext f168.2), (HK.2.2.2.2.2.2.2.2.2.2.2.1.2.2.2.ext f168.2), pre206⟩
    · have pre207 : own_Go p e below S0 (Tj1.setTop (mkF m 194 #[.val (.int p1), .val (.int p2), .val (.int ((p1 &&& (2147483647 : Int32)) % (18 : Int32))), .val (.int (p2.toInt16.toInt32)), .val (.ref al), .val (.ref ah), .unset, .unset] [(.int (12 : Int32))])) := by
        intro t kt
        refine pre169 t ?_
        exact castTop (by rw [hk]) kt
      obtain ⟨_, _, ⟨T208, L208, k208, n208⟩, -, X208, ⟨Lc208, hQ208, l208, y208, z208⟩, st208⟩ := Jvm.LawKit.callS Xj1 hx (y := (⟨"com/example/eurybates/eurybates/protocol/ApiKeyImplementsVersionPinLaw", "pick", "(I)Lcom/example/eurybates/eurybates/protocol/ApiKey;"⟩ : MethodName)) hown (mvT hZ (hw _ (own_w 2 rfl))) (mvT hZ (hw _ (own_w 3 rfl))) (mvT hZ (hw _ (own_w 4 rfl))) (mvT hZ (hw _ (own_w 5 rfl))) (by decide) (backOf (W := 0) (rm1n12 l Z a0 hw [] wLIST_GROUPS hj1 n0 zs167 f168 HK.2.2.2.2.2.2.2.2.2.2.2.2.1.1) hZ (hw _ (own_w 5 rfl)) (hw _ (own_w 4 rfl)) (by decide) (by decide)) (g := (mkF m 194 #[.val (.int p1), .val (.int p2), .val (.int ((p1 &&& (2147483647 : Int32)) % (18 : Int32))), .val (.int (p2.toInt16.toInt32)), .val (.ref al), .val (.ref ah), .unset, .unset] [(.int (12 : Int32))])) rfl (by rw [hml]; rfl) (argsL := [(.int (12 : Int32))]) (rest := []) (lenOf pd_0 rfl) rfl (by show 2 * 0 + _ ≤ _; exact Nat.le_of_eq rfl) (hb hby at_194) (fun _ _ => ⟨rfl, ej1, (by decide : 2 + 0 ≤ _), (by decide : 36 + 0 ≤ _)⟩)
      dsimp only [Pt.U, Pt.locs, Pt.cells, Pt.slots] at X208 l208 y208 z208 st208 hQ208
      subst l208 y208 z208
      obtain ⟨rfl, Nq208, eq208⟩ := hQ208
      have N208 := Fr.app Nj1 Nq208
      have pre209 : own_Go p e below S0 (T208.setTop (mkF m 197 #[.val (.int p1), .val (.int p2), .val (.int ((p1 &&& (2147483647 : Int32)) % (18 : Int32))), .val (.int (p2.toInt16.toInt32)), .val (.ref al), .val (.ref ah), .unset, .unset] [(.ref wLIST_GROUPS)])) := by
        intro t kt
        refine pre207 t ?_
        refine st208 _ ?_
        show Steps p.tables e below (T208.setTop (mkF m 197 #[.val (.int p1), .val (.int p2), .val (.int ((p1 &&& (2147483647 : Int32)) % (18 : Int32))), .val (.int (p2.toInt16.toInt32)), .val (.ref al), .val (.ref ah), .unset, .unset] [(.ref wLIST_GROUPS)])) _
        exact kt
      exact ⟨wLIST_GROUPS, (0 : Int32), (2 : Int32), T208, _, (Stand.mono X208 (by decide) (by decide)), N208, eq208, (by rw [hk]; decide), (by rw [hk]; decide), (by rw [hk]; rfl), (by rw [hk]; rfl), (HK.2.2.2.2.2.2.2.2.2.2.2.2.1.2.1.ext f168.2), (HK.2.2.2.2.2.2.2.2.2.2.2.2.1.2.2.1.ext f168.2), (HK.2.2.2.2.2.2.2.2.2.2.2.2.1.2.2.2.ext f168.2), pre209⟩
    · have pre210 : own_Go p e below S0 (Tj1.setTop (mkF m 194 #[.val (.int p1), .val (.int p2), .val (.int ((p1 &&& (2147483647 : Int32)) % (18 : Int32))), .val (.int (p2.toInt16.toInt32)), .val (.ref al), .val (.ref ah), .unset, .unset] [(.int (13 : Int32))])) := by
        intro t kt
        refine pre169 t ?_
        exact castTop (by rw [hk]) kt
      obtain ⟨_, _, ⟨T211, L211, k211, n211⟩, -, X211, ⟨Lc211, hQ211, l211, y211, z211⟩, st211⟩ := Jvm.LawKit.callS Xj1 hx (y := (⟨"com/example/eurybates/eurybates/protocol/ApiKeyImplementsVersionPinLaw", "pick", "(I)Lcom/example/eurybates/eurybates/protocol/ApiKey;"⟩ : MethodName)) hown (mvT hZ (hw _ (own_w 2 rfl))) (mvT hZ (hw _ (own_w 3 rfl))) (mvT hZ (hw _ (own_w 4 rfl))) (mvT hZ (hw _ (own_w 5 rfl))) (by decide) (backOf (W := 0) (rm1n13 l Z a0 hw [] wAPI_VERSIONS hj1 n0 zs167 f168 HK.2.2.2.2.2.2.2.2.2.2.2.2.2.1.1) hZ (hw _ (own_w 5 rfl)) (hw _ (own_w 4 rfl)) (by decide) (by decide)) (g := (mkF m 194 #[.val (.int p1), .val (.int p2), .val (.int ((p1 &&& (2147483647 : Int32)) % (18 : Int32))), .val (.int (p2.toInt16.toInt32)), .val (.ref al), .val (.ref ah), .unset, .unset] [(.int (13 : Int32))])) rfl (by rw [hml]; rfl) (argsL := [(.int (13 : Int32))]) (rest := []) (lenOf pd_0 rfl) rfl (by show 2 * 0 + _ ≤ _; exact Nat.le_of_eq rfl) (hb hby at_194) (fun _ _ => ⟨rfl, ej1, (by decide : 2 + 0 ≤ _), (by decide : 36 + 0 ≤ _)⟩)
      dsimp only [Pt.U, Pt.locs, Pt.cells, Pt.slots] at X211 l211 y211 z211 st211 hQ211
      subst l211 y211 z211
      obtain ⟨rfl, Nq211, eq211⟩ := hQ211
      have N211 := Fr.app Nj1 Nq211
      have pre212 : own_Go p e below S0 (T211.setTop (mkF m 197 #[.val (.int p1), .val (.int p2), .val (.int ((p1 &&& (2147483647 : Int32)) % (18 : Int32))), .val (.int (p2.toInt16.toInt32)), .val (.ref al), .val (.ref ah), .unset, .unset] [(.ref wAPI_VERSIONS)])) := by
        intro t kt
        refine pre210 t ?_
        refine st211 _ ?_
        show Steps p.tables e below (T211.setTop (mkF m 197 #[.val (.int p1), .val (.int p2), .val (.int ((p1 &&& (2147483647 : Int32)) % (18 : Int32))), .val (.int (p2.toInt16.toInt32)), .val (.ref al), .val (.ref ah), .unset, .unset] [(.ref wAPI_VERSIONS)])) _
        exact kt
      exact ⟨wAPI_VERSIONS, (0 : Int32), (3 : Int32), T211, _, (Stand.mono X211 (by decide) (by decide)), N211, eq211, (by rw [hk]; decide), (by rw [hk]; decide), (by rw [hk]; rfl), (by rw [hk]; rfl), (HK.2.2.2.2.2.2.2.2.2.2.2.2.2.1.2.1.ext f168.2), (HK.2.2.2.2.2.2.2.2.2.2.2.2.2.1.2.2.1.ext f168.2), (HK.2.2.2.2.2.2.2.2.2.2.2.2.2.1.2.2.2.ext f168.2), pre212⟩
    · have pre213 : own_Go p e below S0 (Tj1.setTop (mkF m 194 #[.val (.int p1), .val (.int p2), .val (.int ((p1 &&& (2147483647 : Int32)) % (18 : Int32))), .val (.int (p2.toInt16.toInt32)), .val (.ref al), .val (.ref ah), .unset, .unset] [(.int (14 : Int32))])) := by
        intro t kt
        refine pre169 t ?_
        exact castTop (by rw [hk]) kt
      obtain ⟨_, _, ⟨T214, L214, k214, n214⟩, -, X214, ⟨Lc214, hQ214, l214, y214, z214⟩, st214⟩ := Jvm.LawKit.callS Xj1 hx (y := (⟨"com/example/eurybates/eurybates/protocol/ApiKeyImplementsVersionPinLaw", "pick", "(I)Lcom/example/eurybates/eurybates/protocol/ApiKey;"⟩ : MethodName)) hown (mvT hZ (hw _ (own_w 2 rfl))) (mvT hZ (hw _ (own_w 3 rfl))) (mvT hZ (hw _ (own_w 4 rfl))) (mvT hZ (hw _ (own_w 5 rfl))) (by decide) (backOf (W := 0) (rm1n14 l Z a0 hw [] wCREATE_TOPICS hj1 n0 zs167 f168 HK.2.2.2.2.2.2.2.2.2.2.2.2.2.2.1.1) hZ (hw _ (own_w 5 rfl)) (hw _ (own_w 4 rfl)) (by decide) (by decide)) (g := (mkF m 194 #[.val (.int p1), .val (.int p2), .val (.int ((p1 &&& (2147483647 : Int32)) % (18 : Int32))), .val (.int (p2.toInt16.toInt32)), .val (.ref al), .val (.ref ah), .unset, .unset] [(.int (14 : Int32))])) rfl (by rw [hml]; rfl) (argsL := [(.int (14 : Int32))]) (rest := []) (lenOf pd_0 rfl) rfl (by show 2 * 0 + _ ≤ _; exact Nat.le_of_eq rfl) (hb hby at_194) (fun _ _ => ⟨rfl, ej1, (by decide : 2 + 0 ≤ _), (by decide : 36 + 0 ≤ _)⟩)
      dsimp only [Pt.U, Pt.locs, Pt.cells, Pt.slots] at X214 l214 y214 z214 st214 hQ214
      subst l214 y214 z214
      obtain ⟨rfl, Nq214, eq214⟩ := hQ214
      have N214 := Fr.app Nj1 Nq214
      have pre215 : own_Go p e below S0 (T214.setTop (mkF m 197 #[.val (.int p1), .val (.int p2), .val (.int ((p1 &&& (2147483647 : Int32)) % (18 : Int32))), .val (.int (p2.toInt16.toInt32)), .val (.ref al), .val (.ref ah), .unset, .unset] [(.ref wCREATE_TOPICS)])) := by
        intro t kt
        refine pre213 t ?_
        refine st214 _ ?_
        show Steps p.tables e below (T214.setTop (mkF m 197 #[.val (.int p1), .val (.int p2), .val (.int ((p1 &&& (2147483647 : Int32)) % (18 : Int32))), .val (.int (p2.toInt16.toInt32)), .val (.ref al), .val (.ref ah), .unset, .unset] [(.ref wCREATE_TOPICS)])) _
        exact kt
      exact ⟨wCREATE_TOPICS, (0 : Int32), (4 : Int32), T214, _, (Stand.mono X214 (by decide) (by decide)), N214, eq214, (by rw [hk]; decide), (by rw [hk]; decide), (by rw [hk]; rfl), (by rw [hk]; rfl), (HK.2.2.2.2.2.2.2.2.2.2.2.2.2.2.1.2.1.ext f168.2), (HK.2.2.2.2.2.2.2.2.2.2.2.2.2.2.1.2.2.1.ext f168.2), (HK.2.2.2.2.2.2.2.2.2.2.2.2.2.2.1.2.2.2.ext f168.2), pre215⟩
    · have pre216 : own_Go p e below S0 (Tj1.setTop (mkF m 194 #[.val (.int p1), .val (.int p2), .val (.int ((p1 &&& (2147483647 : Int32)) % (18 : Int32))), .val (.int (p2.toInt16.toInt32)), .val (.ref al), .val (.ref ah), .unset, .unset] [(.int (15 : Int32))])) := by
        intro t kt
        refine pre169 t ?_
        exact castTop (by rw [hk]) kt
      obtain ⟨_, _, ⟨T217, L217, k217, n217⟩, -, X217, ⟨Lc217, hQ217, l217, y217, z217⟩, st217⟩ := Jvm.LawKit.callS Xj1 hx (y := (⟨"com/example/eurybates/eurybates/protocol/ApiKeyImplementsVersionPinLaw", "pick", "(I)Lcom/example/eurybates/eurybates/protocol/ApiKey;"⟩ : MethodName)) hown (mvT hZ (hw _ (own_w 2 rfl))) (mvT hZ (hw _ (own_w 3 rfl))) (mvT hZ (hw _ (own_w 4 rfl))) (mvT hZ (hw _ (own_w 5 rfl))) (by decide) (backOf (W := 0) (rm1n15 l Z a0 hw [] wDELETE_TOPICS hj1 n0 zs167 f168 HK.2.2.2.2.2.2.2.2.2.2.2.2.2.2.2.1.1) hZ (hw _ (own_w 5 rfl)) (hw _ (own_w 4 rfl)) (by decide) (by decide)) (g := (mkF m 194 #[.val (.int p1), .val (.int p2), .val (.int ((p1 &&& (2147483647 : Int32)) % (18 : Int32))), .val (.int (p2.toInt16.toInt32)), .val (.ref al), .val (.ref ah), .unset, .unset] [(.int (15 : Int32))])) rfl (by rw [hml]; rfl) (argsL := [(.int (15 : Int32))]) (rest := []) (lenOf pd_0 rfl) rfl (by show 2 * 0 + _ ≤ _; exact Nat.le_of_eq rfl) (hb hby at_194) (fun _ _ => ⟨rfl, ej1, (by decide : 2 + 0 ≤ _), (by decide : 36 + 0 ≤ _)⟩)
      dsimp only [Pt.U, Pt.locs, Pt.cells, Pt.slots] at X217 l217 y217 z217 st217 hQ217
      subst l217 y217 z217
      obtain ⟨rfl, Nq217, eq217⟩ := hQ217
      have N217 := Fr.app Nj1 Nq217
      have pre218 : own_Go p e below S0 (T217.setTop (mkF m 197 #[.val (.int p1), .val (.int p2), .val (.int ((p1 &&& (2147483647 : Int32)) % (18 : Int32))), .val (.int (p2.toInt16.toInt32)), .val (.ref al), .val (.ref ah), .unset, .unset] [(.ref wDELETE_TOPICS)])) := by
        intro t kt
        refine pre216 t ?_
        refine st217 _ ?_
        show Steps p.tables e below (T217.setTop (mkF m 197 #[.val (.int p1), .val (.int p2), .val (.int ((p1 &&& (2147483647 : Int32)) % (18 : Int32))), .val (.int (p2.toInt16.toInt32)), .val (.ref al), .val (.ref ah), .unset, .unset] [(.ref wDELETE_TOPICS)])) _
        exact kt
      exact ⟨wDELETE_TOPICS, (0 : Int32), (3 : Int32), T217, _, (Stand.mono X217 (by decide) (by decide)), N217, eq217, (by rw [hk]; decide), (by rw [hk]; decide), (by rw [hk]; rfl), (by rw [hk]; rfl), (HK.2.2.2.2.2.2.2.2.2.2.2.2.2.2.2.1.2.1.ext f168.2), (HK.2.2.2.2.2.2.2.2.2.2.2.2.2.2.2.1.2.2.1.ext f168.2), (HK.2.2.2.2.2.2.2.2.2.2.2.2.2.2.2.1.2.2.2.ext f168.2), pre218⟩
    · have pre219 : own_Go p e below S0 (Tj1.setTop (mkF m 194 #[.val (.int p1), .val (.int p2), .val (.int ((p1 &&& (2147483647 : Int32)) % (18 : Int32))), .val (.int (p2.toInt16.toInt32)), .val (.ref al), .val (.ref ah), .unset, .unset] [(.int (16 : Int32))])) := by
        intro t kt
        refine pre169 t ?_
        exact castTop (by rw [hk]) kt
      obtain ⟨_, _, ⟨T220, L220, k220, n220⟩, -, X220, ⟨Lc220, hQ220, l220, y220, z220⟩, st220⟩ := Jvm.LawKit.callS Xj1 hx (y := (⟨"com/example/eurybates/eurybates/protocol/ApiKeyImplementsVersionPinLaw", "pick", "(I)Lcom/example/eurybates/eurybates/protocol/ApiKey;"⟩ : MethodName)) hown (mvT hZ (hw _ (own_w 2 rfl))) (mvT hZ (hw _ (own_w 3 rfl))) (mvT hZ (hw _ (own_w 4 rfl))) (mvT hZ (hw _ (own_w 5 rfl))) (by decide) (backOf (W := 0) (rm1n16 l Z a0 hw [] wINIT_PRODUCER_ID hj1 n0 zs167 f168 HK.2.2.2.2.2.2.2.2.2.2.2.2.2.2.2.2.1.1) hZ (hw _ (own_w 5 rfl)) (hw _ (own_w 4 rfl)) (by decide) (by decide)) (g := (mkF m 194 #[.val (.int p1), .val (.int p2), .val (.int ((p1 &&& (2147483647 : Int32)) % (18 : Int32))), .val (.int (p2.toInt16.toInt32)), .val (.ref al), .val (.ref ah), .unset, .unset] [(.int (16 : Int32))])) rfl (by rw [hml]; rfl) (argsL := [(.int (16 : Int32))]) (rest := []) (lenOf pd_0 rfl) rfl (by show 2 * 0 + _ ≤ _; exact Nat.le_of_eq rfl) (hb hby at_194) (fun _ _ => ⟨rfl, ej1, (by decide : 2 + 0 ≤ _), (by decide : 36 + 0 ≤ _)⟩)
      dsimp only [Pt.U, Pt.locs, Pt.cells, Pt.slots] at X220 l220 y220 z220 st220 hQ220
      subst l220 y220 z220
      obtain ⟨rfl, Nq220, eq220⟩ := hQ220
      have N220 := Fr.app Nj1 Nq220
      have pre221 : own_Go p e below S0 (T220.setTop (mkF m 197 #[.val (.int p1), .val (.int p2), .val (.int ((p1 &&& (2147483647 : Int32)) % (18 : Int32))), .val (.int (p2.toInt16.toInt32)), .val (.ref al), .val (.ref ah), .unset, .unset] [(.ref wINIT_PRODUCER_ID)])) := by
        intro t kt
        refine pre219 t ?_
        refine st220 _ ?_
        show Steps p.tables e below (T220.setTop (mkF m 197 #[.val (.int p1), .val (.int p2), .val (.int ((p1 &&& (2147483647 : Int32)) % (18 : Int32))), .val (.int (p2.toInt16.toInt32)), .val (.ref al), .val (.ref ah), .unset, .unset] [(.ref wINIT_PRODUCER_ID)])) _
        exact kt
      exact ⟨wINIT_PRODUCER_ID, (0 : Int32), (1 : Int32), T220, _, (Stand.mono X220 (by decide) (by decide)), N220, eq220, (by rw [hk]; decide), (by rw [hk]; decide), (by rw [hk]; rfl), (by rw [hk]; rfl), (HK.2.2.2.2.2.2.2.2.2.2.2.2.2.2.2.2.1.2.1.ext f168.2), (HK.2.2.2.2.2.2.2.2.2.2.2.2.2.2.2.2.1.2.2.1.ext f168.2), (HK.2.2.2.2.2.2.2.2.2.2.2.2.2.2.2.2.1.2.2.2.ext f168.2), pre221⟩
    · have pre222 : own_Go p e below S0 (Tj1.setTop (mkF m 194 #[.val (.int p1), .val (.int p2), .val (.int ((p1 &&& (2147483647 : Int32)) % (18 : Int32))), .val (.int (p2.toInt16.toInt32)), .val (.ref al), .val (.ref ah), .unset, .unset] [(.int (17 : Int32))])) := by
        intro t kt
        refine pre169 t ?_
        exact castTop (by rw [hk]) kt
      obtain ⟨_, _, ⟨T223, L223, k223, n223⟩, -, X223, ⟨Lc223, hQ223, l223, y223, z223⟩, st223⟩ := Jvm.LawKit.callS Xj1 hx (y := (⟨"com/example/eurybates/eurybates/protocol/ApiKeyImplementsVersionPinLaw", "pick", "(I)Lcom/example/eurybates/eurybates/protocol/ApiKey;"⟩ : MethodName)) hown (mvT hZ (hw _ (own_w 2 rfl))) (mvT hZ (hw _ (own_w 3 rfl))) (mvT hZ (hw _ (own_w 4 rfl))) (mvT hZ (hw _ (own_w 5 rfl))) (by decide) (backOf (W := 0) (rm1n17 l Z a0 hw [] wCREATE_PARTITIONS hj1 n0 zs167 f168 HK.2.2.2.2.2.2.2.2.2.2.2.2.2.2.2.2.2.1) hZ (hw _ (own_w 5 rfl)) (hw _ (own_w 4 rfl)) (by decide) (by decide)) (g := (mkF m 194 #[.val (.int p1), .val (.int p2), .val (.int ((p1 &&& (2147483647 : Int32)) % (18 : Int32))), .val (.int (p2.toInt16.toInt32)), .val (.ref al), .val (.ref ah), .unset, .unset] [(.int (17 : Int32))])) rfl (by rw [hml]; rfl) (argsL := [(.int (17 : Int32))]) (rest := []) (lenOf pd_0 rfl) rfl (by show 2 * 0 + _ ≤ _; exact Nat.le_of_eq rfl) (hb hby at_194) (fun _ _ => ⟨rfl, ej1, (by decide : 2 + 0 ≤ _), (by decide : 36 + 0 ≤ _)⟩)
      dsimp only [Pt.U, Pt.locs, Pt.cells, Pt.slots] at X223 l223 y223 z223 st223 hQ223
      subst l223 y223 z223
      obtain ⟨rfl, Nq223, eq223⟩ := hQ223
      have N223 := Fr.app Nj1 Nq223
      have pre224 : own_Go p e below S0 (T223.setTop (mkF m 197 #[.val (.int p1), .val (.int p2), .val (.int ((p1 &&& (2147483647 : Int32)) % (18 : Int32))), .val (.int (p2.toInt16.toInt32)), .val (.ref al), .val (.ref ah), .unset, .unset] [(.ref wCREATE_PARTITIONS)])) := by
        intro t kt
        refine pre222 t ?_
        refine st223 _ ?_
        show Steps p.tables e below (T223.setTop (mkF m 197 #[.val (.int p1), .val (.int p2), .val (.int ((p1 &&& (2147483647 : Int32)) % (18 : Int32))), .val (.int (p2.toInt16.toInt32)), .val (.ref al), .val (.ref ah), .unset, .unset] [(.ref wCREATE_PARTITIONS)])) _
        exact kt
      exact ⟨wCREATE_PARTITIONS, (0 : Int32), (1 : Int32), T223, _, (Stand.mono X223 (by decide) (by decide)), N223, eq223, (by rw [hk]; decide), (by rw [hk]; decide), (by rw [hk]; rfl), (by rw [hk]; rfl), (HK.2.2.2.2.2.2.2.2.2.2.2.2.2.2.2.2.2.2.1.ext f168.2), (HK.2.2.2.2.2.2.2.2.2.2.2.2.2.2.2.2.2.2.2.1.ext f168.2), (HK.2.2.2.2.2.2.2.2.2.2.2.2.2.2.2.2.2.2.2.2.ext f168.2), pre224⟩
  have pre232 : own_Go p e below S0 (Tj170.setTop (mkF m 202 #[.val (.int p1), .val (.int p2), .val (.int ((p1 &&& (2147483647 : Int32)) % (18 : Int32))), .val (.int (p2.toInt16.toInt32)), .val (.ref al), .val (.ref ah), .val (.ref wk), .unset] [(.int ((p1 &&& (2147483647 : Int32)) % (18 : Int32))), (.ref al)])) := by
    intro t kt
    refine prej170 t ?_
    refine XS.astore Xj170.here hx rfl (hb hby at_197) rfl rfl (l' := #[.val (.int p1), .val (.int p2), .val (.int ((p1 &&& (2147483647 : Int32)) % (18 : Int32))), .val (.int (p2.toInt16.toInt32)), .val (.ref al), .val (.ref ah), .val (.ref wk), .unset]) rfl ?_
    show Steps p.tables e below (Tj170.setTop (mkF m 199 #[.val (.int p1), .val (.int p2), .val (.int ((p1 &&& (2147483647 : Int32)) % (18 : Int32))), .val (.int (p2.toInt16.toInt32)), .val (.ref al), .val (.ref ah), .val (.ref wk), .unset] [])) _
    refine XS.aload Xj170.here hx rfl (hb hby at_199) rfl rfl ?_
    show Steps p.tables e below (Tj170.setTop (mkF m 201 #[.val (.int p1), .val (.int p2), .val (.int ((p1 &&& (2147483647 : Int32)) % (18 : Int32))), .val (.int (p2.toInt16.toInt32)), .val (.ref al), .val (.ref ah), .val (.ref wk), .unset] [(.ref al)])) _
    refine XS.iloadN Xj170.here hx rfl (hb hby at_201) rfl ?_
    show Steps p.tables e below (Tj170.setTop (mkF m 202 #[.val (.int p1), .val (.int p2), .val (.int ((p1 &&& (2147483647 : Int32)) % (18 : Int32))), .val (.int (p2.toInt16.toInt32)), .val (.ref al), .val (.ref ah), .val (.ref wk), .unset] [(.int ((p1 &&& (2147483647 : Int32)) % (18 : Int32))), (.ref al)])) _
    exact kt
  obtain ⟨cl233, Ar233, -, Sz233, -, Hs233, -⟩ := id qj165
  have hin233 : ¬ (((p1 &&& (2147483647 : Int32)) % (18 : Int32)) < 0 ∨ cl233.slots.size ≤ (((p1 &&& (2147483647 : Int32)) % (18 : Int32))).toNatClampNeg) := inb_of Sz233 ⟨pj225, pj226⟩
  have pre235 : own_Go p e below S0 (Tj170.setTop (mkF m 204 #[.val (.int p1), .val (.int p2), .val (.int ((p1 &&& (2147483647 : Int32)) % (18 : Int32))), .val (.int (p2.toInt16.toInt32)), .val (.ref al), .val (.ref ah), .val (.ref wk), .unset] [(.int (p2.toInt16.toInt32)), (.int lv)])) := by
    intro t kt
    refine pre232 t ?_
    refine Xj170.iaload hx (j := ((p1 &&& (2147483647 : Int32)) % (18 : Int32))) (v := (.int lv)) (by rw [ej170]; exact Ar233.1) (State.isArrayOf_alike hZ.alike Ar233.2.1) Ar233.2.2 hin233 (Hs233.at hin233 pj227) (g := (mkF m 202 #[.val (.int p1), .val (.int p2), .val (.int ((p1 &&& (2147483647 : Int32)) % (18 : Int32))), .val (.int (p2.toInt16.toInt32)), .val (.ref al), .val (.ref ah), .val (.ref wk), .unset] [(.int ((p1 &&& (2147483647 : Int32)) % (18 : Int32))), (.ref al)])) rfl rfl (hb hby at_202) _ ?_
    show Steps p.tables e below (Tj170.setTop (mkF m 203 #[.val (.int p1), .val (.int p2), .val (.int ((p1 &&& (2147483647 : Int32)) % (18 : Int32))), .val (.int (p2.toInt16.toInt32)), .val (.ref al), .val (.ref ah), .val (.ref wk), .unset] [(.int lv)])) _
    refine XS.iloadN Xj170.here hx rfl (hb hby at_203) rfl ?_
    show Steps p.tables e below (Tj170.setTop (mkF m 204 #[.val (.int p1), .val (.int p2), .val (.int ((p1 &&& (2147483647 : Int32)) % (18 : Int32))), .val (.int (p2.toInt16.toInt32)), .val (.ref al), .val (.ref ah), .val (.ref wk), .unset] [(.int (p2.toInt16.toInt32)), (.int lv)])) _
    exact kt
  by_cases hc234 : (p2.toInt16.toInt32) < lv
  · have pre236 : own_Go p e below S0 (Tj170.setTop (mkF m 225 #[.val (.int p1), .val (.int p2), .val (.int ((p1 &&& (2147483647 : Int32)) % (18 : Int32))), .val (.int (p2.toInt16.toInt32)), .val (.ref al), .val (.ref ah), .val (.ref wk), .val (.int (0 : Int32))] [(.int (p2.toInt16.toInt32)), (.ref wk)])) := by
      intro t kt
      refine pre235 t ?_
      refine XS.icmpYes Xj170.here hx rfl (pc0 := 204) (pc' := 219) rfl (hb hby at_204) rfl (tlt hc234).2.2.1 (by decide) (by decide) ?_
      show Steps p.tables e below (Tj170.setTop (mkF m 219 #[.val (.int p1), .val (.int p2), .val (.int ((p1 &&& (2147483647 : Int32)) % (18 : Int32))), .val (.int (p2.toInt16.toInt32)), .val (.ref al), .val (.ref ah), .val (.ref wk), .unset] [])) _
      refine XS.iconst Xj170.here hx rfl (hb hby at_219) ?_
      show Steps p.tables e below (Tj170.setTop (mkF m 220 #[.val (.int p1), .val (.int p2), .val (.int ((p1 &&& (2147483647 : Int32)) % (18 : Int32))), .val (.int (p2.toInt16.toInt32)), .val (.ref al), .val (.ref ah), .val (.ref wk), .unset] [(.int (0 : Int32))])) _
      refine XS.istore Xj170.here hx rfl (hb hby at_220) rfl (l' := #[.val (.int p1), .val (.int p2), .val (.int ((p1 &&& (2147483647 : Int32)) % (18 : Int32))), .val (.int (p2.toInt16.toInt32)), .val (.ref al), .val (.ref ah), .val (.ref wk), .val (.int (0 : Int32))]) rfl ?_
      show Steps p.tables e below (Tj170.setTop (mkF m 222 #[.val (.int p1), .val (.int p2), .val (.int ((p1 &&& (2147483647 : Int32)) % (18 : Int32))), .val (.int (p2.toInt16.toInt32)), .val (.ref al), .val (.ref ah), .val (.ref wk), .val (.int (0 : Int32))] [])) _
      refine XS.aload Xj170.here hx rfl (hb hby at_222) rfl rfl ?_
      show Steps p.tables e below (Tj170.setTop (mkF m 224 #[.val (.int p1), .val (.int p2), .val (.int ((p1 &&& (2147483647 : Int32)) % (18 : Int32))), .val (.int (p2.toInt16.toInt32)), .val (.ref al), .val (.ref ah), .val (.ref wk), .val (.int (0 : Int32))] [(.ref wk)])) _
      refine XS.iloadN Xj170.here hx rfl (hb hby at_224) rfl ?_
      show Steps p.tables e below (Tj170.setTop (mkF m 225 #[.val (.int p1), .val (.int p2), .val (.int ((p1 &&& (2147483647 : Int32)) % (18 : Int32))), .val (.int (p2.toInt16.toInt32)), .val (.ref al), .val (.ref ah), .val (.ref wk), .val (.int (0 : Int32))] [(.int (p2.toInt16.toInt32)), (.ref wk)])) _
      exact kt
    obtain ⟨cq237, kq237, qa237, qb237, qc237⟩ := isOf hZ ej170 qj229
    obtain ⟨_, _, ⟨T237, L237, k237, n237⟩, -, X237, ⟨Lc237, hQ237, l237, y237, z237⟩, st237⟩ := Xj170.virtualBack hx (y := (⟨"com/example/eurybates/eurybates/protocol/ApiKey", "implementsVersion", "(S)Z"⟩ : MethodName)) (z := (⟨"com/example/eurybates/eurybates/protocol/ApiKey", "implementsVersion", "(S)Z"⟩ : MethodName)) hown (mvT hZ (hw _ (own_w 9 rfl))) (mvT hZ (hw _ (own_w 10 rfl))) (notFace_of_selects (args := #[]) (mvT hZ (hw _ (own_w 12 rfl)))) (mvT hZ (hw _ (own_w 12 rfl))) (mvT hZ (hw _ (own_w 11 rfl))) (by decide) (backOf (W := 0) (rm2 l Z a0 hw [] wk (p2.toInt16.toInt32) lv hv hj1 n0 zs167 qj230 qj231) hZ (hw _ (own_w 13 rfl)) (hw _ (own_w 7 rfl)) (by decide) (by decide)) qa237 qc237 (g := (mkF m 225 #[.val (.int p1), .val (.int p2), .val (.int ((p1 &&& (2147483647 : Int32)) % (18 : Int32))), .val (.int (p2.toInt16.toInt32)), .val (.ref al), .val (.ref ah), .val (.ref wk), .val (.int (0 : Int32))] [(.int (p2.toInt16.toInt32)), (.ref wk)])) rfl (by rw [hml]; rfl) (Steps.refl _) (argsL := [(.int (p2.toInt16.toInt32))]) (rest := []) (lenOf pd_1 rfl) rfl (by show 2 * 0 + _ ≤ _; exact Nat.le_of_eq rfl) (hb hby at_225) (fun _ _ => ⟨rfl, ej170, (by decide : 2 + 0 ≤ _), (by decide : 36 + 0 ≤ _)⟩)
    dsimp only [Pt.U, Pt.locs, Pt.cells, Pt.slots] at X237 l237 y237 z237 st237 hQ237
    subst l237 y237 z237
    obtain ⟨rfl, Nq237, eq237⟩ := hQ237
    have N237 := Fr.app Nj170 Nq237
    have pre238 : own_Go p e below S0 (T237.setTop (mkF m 238 #[.val (.int p1), .val (.int p2), .val (.int ((p1 &&& (2147483647 : Int32)) % (18 : Int32))), .val (.int (p2.toInt16.toInt32)), .val (.ref al), .val (.ref ah), .val (.ref wk), .val (.int (0 : Int32))] [(.int (1 : Int32))])) := by
      intro t kt
      refine pre236 t ?_
      refine st237.trans ?_
      show Steps p.tables e below (T237.setTop (mkF m 228 #[.val (.int p1), .val (.int p2), .val (.int ((p1 &&& (2147483647 : Int32)) % (18 : Int32))), .val (.int (p2.toInt16.toInt32)), .val (.ref al), .val (.ref ah), .val (.ref wk), .val (.int (0 : Int32))] [(.int (own_impl wk (p2.toInt16.toInt32) lv hv))])) _
      refine XS.iload X237.here hx rfl (hb hby at_228) rfl ?_
      show Steps p.tables e below (T237.setTop (mkF m 230 #[.val (.int p1), .val (.int p2), .val (.int ((p1 &&& (2147483647 : Int32)) % (18 : Int32))), .val (.int (p2.toInt16.toInt32)), .val (.ref al), .val (.ref ah), .val (.ref wk), .val (.int (0 : Int32))] [(.int (0 : Int32)), (.int (own_impl wk (p2.toInt16.toInt32) lv hv))])) _
      refine XS.icmpNo X237.here hx rfl (hb hby at_230) rfl (teq (by rw [own_impl, if_pos hc234])).2 ?_
      show Steps p.tables e below (T237.setTop (mkF m 233 #[.val (.int p1), .val (.int p2), .val (.int ((p1 &&& (2147483647 : Int32)) % (18 : Int32))), .val (.int (p2.toInt16.toInt32)), .val (.ref al), .val (.ref ah), .val (.ref wk), .val (.int (0 : Int32))] [])) _
      refine XS.iconst X237.here hx rfl (hb hby at_233) ?_
      show Steps p.tables e below (T237.setTop (mkF m 234 #[.val (.int p1), .val (.int p2), .val (.int ((p1 &&& (2147483647 : Int32)) % (18 : Int32))), .val (.int (p2.toInt16.toInt32)), .val (.ref al), .val (.ref ah), .val (.ref wk), .val (.int (0 : Int32))] [(.int (1 : Int32))])) _
      refine XS.goto X237.here hx rfl (pc0 := 234) (pc' := 238) rfl (hb hby at_234) (by decide) (by decide) ?_
      show Steps p.tables e below (T237.setTop (mkF m 238 #[.val (.int p1), .val (.int p2), .val (.int ((p1 &&& (2147483647 : Int32)) % (18 : Int32))), .val (.int (p2.toInt16.toInt32)), .val (.ref al), .val (.ref ah), .val (.ref wk), .val (.int (0 : Int32))] [(.int (1 : Int32))])) _
      exact kt
    obtain ⟨fs, hr, hrun, hended, hW, hsame⟩ := X237.leave (v := some (.int (1 : Int32))) (fun h => by rw [Bd.returns] at h; cases h)
    refine ⟨_, _, fin _ (pre238 _ ?_), hrun, hended, _, _, rfl, ?_, ⟨_, rfl⟩, hW, hsame.mono (by decide) (by decide)⟩
    · exact retN X237 hx (t := .boolean) Bd.returns (by simp) (hb hby at_238) hr
    · show Q0 Z p1 p2 wPRODUCE wFETCH wLIST_OFFSETS wMETADATA wOFFSET_COMMIT wOFFSET_FETCH wFIND_COORDINATOR wJOIN_GROUP wHEARTBEAT wLEAVE_GROUP wSYNC_GROUP wDESCRIBE_GROUPS wLIST_GROUPS wAPI_VERSIONS wCREATE_TOPICS wDELETE_TOPICS wINIT_PRODUCER_ID wCREATE_PARTITIONS h0 n0 _ T237.heap _
      rw [eq237]
      exact ⟨rfl, N237⟩
  · have pre239 : own_Go p e below S0 (Tj170.setTop (mkF m 211 #[.val (.int p1), .val (.int p2), .val (.int ((p1 &&& (2147483647 : Int32)) % (18 : Int32))), .val (.int (p2.toInt16.toInt32)), .val (.ref al), .val (.ref ah), .val (.ref wk), .unset] [(.int ((p1 &&& (2147483647 : Int32)) % (18 : Int32))), (.ref ah), (.int (p2.toInt16.toInt32))])) := by
      intro t kt
      refine pre235 t ?_
      refine XS.icmpNo Xj170.here hx rfl (hb hby at_204) rfl (flt hc234).2.2.1 ?_
      show Steps p.tables e below (Tj170.setTop (mkF m 207 #[.val (.int p1), .val (.int p2), .val (.int ((p1 &&& (2147483647 : Int32)) % (18 : Int32))), .val (.int (p2.toInt16.toInt32)), .val (.ref al), .val (.ref ah), .val (.ref wk), .unset] [])) _
      refine XS.iloadN Xj170.here hx rfl (hb hby at_207) rfl ?_
      show Steps p.tables e below (Tj170.setTop (mkF m 208 #[.val (.int p1), .val (.int p2), .val (.int ((p1 &&& (2147483647 : Int32)) % (18 : Int32))), .val (.int (p2.toInt16.toInt32)), .val (.ref al), .val (.ref ah), .val (.ref wk), .unset] [(.int (p2.toInt16.toInt32))])) _
      refine XS.aload Xj170.here hx rfl (hb hby at_208) rfl rfl ?_
      show Steps p.tables e below (Tj170.setTop (mkF m 210 #[.val (.int p1), .val (.int p2), .val (.int ((p1 &&& (2147483647 : Int32)) % (18 : Int32))), .val (.int (p2.toInt16.toInt32)), .val (.ref al), .val (.ref ah), .val (.ref wk), .unset] [(.ref ah), (.int (p2.toInt16.toInt32))])) _
      refine XS.iloadN Xj170.here hx rfl (hb hby at_210) rfl ?_
      show Steps p.tables e below (Tj170.setTop (mkF m 211 #[.val (.int p1), .val (.int p2), .val (.int ((p1 &&& (2147483647 : Int32)) % (18 : Int32))), .val (.int (p2.toInt16.toInt32)), .val (.ref al), .val (.ref ah), .val (.ref wk), .unset] [(.int ((p1 &&& (2147483647 : Int32)) % (18 : Int32))), (.ref ah), (.int (p2.toInt16.toInt32))])) _
      exact kt
    obtain ⟨cl240, Ar240, -, Sz240, -, Hs240, -⟩ := id qj166
    have hin240 : ¬ (((p1 &&& (2147483647 : Int32)) % (18 : Int32)) < 0 ∨ cl240.slots.size ≤ (((p1 &&& (2147483647 : Int32)) % (18 : Int32))).toNatClampNeg) := inb_of Sz240 ⟨pj225, pj226⟩
    have pre242 : own_Go p e below S0 (Tj170.setTop (mkF m 212 #[.val (.int p1), .val (.int p2), .val (.int ((p1 &&& (2147483647 : Int32)) % (18 : Int32))), .val (.int (p2.toInt16.toInt32)), .val (.ref al), .val (.ref ah), .val (.ref wk), .unset] [(.int hv), (.int (p2.toInt16.toInt32))])) := by
      intro t kt
      refine pre239 t ?_
      refine Xj170.iaload hx (j := ((p1 &&& (2147483647 : Int32)) % (18 : Int32))) (v := (.int hv)) (by rw [ej170]; exact Ar240.1) (State.isArrayOf_alike hZ.alike Ar240.2.1) Ar240.2.2 hin240 (Hs240.at hin240 pj228) (g := (mkF m 211 #[.val (.int p1), .val (.int p2), .val (.int ((p1 &&& (2147483647 : Int32)) % (18 : Int32))), .val (.int (p2.toInt16.toInt32)), .val (.ref al), .val (.ref ah), .val (.ref wk), .unset] [(.int ((p1 &&& (2147483647 : Int32)) % (18 : Int32))), (.ref ah), (.int (p2.toInt16.toInt32))])) rfl rfl (hb hby at_211) _ ?_
      show Steps p.tables e below (Tj170.setTop (mkF m 212 #[.val (.int p1), .val (.int p2), .val (.int ((p1 &&& (2147483647 : Int32)) % (18 : Int32))), .val (.int (p2.toInt16.toInt32)), .val (.ref al), .val (.ref ah), .val (.ref wk), .unset] [(.int hv), (.int (p2.toInt16.toInt32))])) _
      exact kt
    by_cases hc241 : hv < (p2.toInt16.toInt32)
    · have pre243 : own_Go p e below S0 (Tj170.setTop (mkF m 225 #[.val (.int p1), .val (.int p2), .val (.int ((p1 &&& (2147483647 : Int32)) % (18 : Int32))), .val (.int (p2.toInt16.toInt32)), .val (.ref al), .val (.ref ah), .val (.ref wk), .val (.int (0 : Int32))] [(.int (p2.toInt16.toInt32)), (.ref wk)])) := by
        intro t kt
        refine pre242 t ?_
        refine XS.icmpYes Xj170.here hx rfl (pc0 := 212) (pc' := 219) rfl (hb hby at_212) rfl (tlt hc241).2.2.1 (by decide) (by decide) ?_
        show Steps p.tables e below (Tj170.setTop (mkF m 219 #[.val (.int p1), .val (.int p2), .val (.int ((p1 &&& (2147483647 : Int32)) % (18 : Int32))), .val (.int (p2.toInt16.toInt32)), .val (.ref al), .val (.ref ah), .val (.ref wk), .unset] [])) _
        refine XS.iconst Xj170.here hx rfl (hb hby at_219) ?_
        show Steps p.tables e below (Tj170.setTop (mkF m 220 #[.val (.int p1), .val (.int p2), .val (.int ((p1 &&& (2147483647 : Int32)) % (18 : Int32))), .val (.int (p2.toInt16.toInt32)), .val (.ref al), .val (.ref ah), .val (.ref wk), .unset] [(.int (0 : Int32))])) _
        refine XS.istore Xj170.here hx rfl (hb hby at_220) rfl (l' := #[.val (.int p1), .val (.int p2), .val (.int ((p1 &&& (2147483647 : Int32)) % (18 : Int32))), .val (.int (p2.toInt16.toInt32)), .val (.ref al), .val (.ref ah), .val (.ref wk), .val (.int (0 : Int32))]) rfl ?_
        show Steps p.tables e below (Tj170.setTop (mkF m 222 #[.val (.int p1), .val (.int p2), .val (.int ((p1 &&& (2147483647 : Int32)) % (18 : Int32))), .val (.int (p2.toInt16.toInt32)), .val (.ref al), .val (.ref ah), .val (.ref wk), .val (.int (0 : Int32))] [])) _
        refine XS.aload Xj170.here hx rfl (hb hby at_222) rfl rfl ?_
        show Steps p.tables e below (Tj170.setTop (mkF m 224 #[.val (.int p1), .val (.int p2), .val (.int ((p1 &&& (2147483647 : Int32)) % (18 : Int32))), .val (.int (p2.toInt16.toInt32)), .val (.ref al), .val (.ref ah), .val (.ref wk), .val (.int (0 : Int32))] [(.ref wk)])) _
        refine XS.iloadN Xj170.here hx rfl (hb hby at_224) rfl ?_
        show Steps p.tables e below (Tj170.setTop (mkF m 225 #[.val (.int p1), .val (.int p2), .val (.int ((p1 &&& (2147483647 : Int32)) % (18 : Int32))), .val (.int (p2.toInt16.toInt32)), .val (.ref al), .val (.ref ah), .val (.ref wk), .val (.int (0 : Int32))] [(.int (p2.toInt16.toInt32)), (.ref wk)])) _
        exact kt
      obtain ⟨cq244, kq244, qa244, qb244, qc244⟩ := isOf hZ ej170 qj229
      obtain ⟨_, _, ⟨T244, L244, k244, n244⟩, -, X244, ⟨Lc244, hQ244, l244, y244, z244⟩, st244⟩ := Xj170.virtualBack hx (y := (⟨"com/example/eurybates/eurybates/protocol/ApiKey", "implementsVersion", "(S)Z"⟩ : MethodName)) (z := (⟨"com/example/eurybates/eurybates/protocol/ApiKey", "implementsVersion", "(S)Z"⟩ : MethodName)) hown (mvT hZ (hw _ (own_w 9 rfl))) (mvT hZ (hw _ (own_w 10 rfl))) (notFace_of_selects (args := #[]) (mvT hZ (hw _ (own_w 12 rfl)))) (mvT hZ (hw _ (own_w 12 rfl))) (mvT hZ (hw _ (own_w 11 rfl))) (by decide) (backOf (W := 0) (rm2 l Z a0 hw [] wk (p2.toInt16.toInt32) lv hv hj1 n0 zs167 qj230 qj231) hZ (hw _ (own_w 13 rfl)) (hw _ (own_w 7 rfl)) (by decide) (by decide)) qa244 qc244 (g := (mkF m 225 #[.val (.int p1), .val (.int p2), .val (.int ((p1 &&& (2147483647 : Int32)) % (18 : Int32))), .val (.int (p2.toInt16.toInt32)), .val (.ref al), .val (.ref ah), .val (.ref wk), .val (.int (0 : Int32))] [(.int (p2.toInt16.toInt32)), (.ref wk)])) rfl (by rw [hml]; rfl) (Steps.refl _) (argsL := [(.int (p2.toInt16.toInt32))]) (rest := []) (lenOf pd_1 rfl) rfl (by show 2 * 0 + _ ≤ _; exact Nat.le_of_eq rfl) (hb hby at_225) (fun _ _ => ⟨rfl, ej170, (by decide : 2 + 0 ≤ _), (by decide : 36 + 0 ≤ _)⟩)
      dsimp only [Pt.U, Pt.locs, Pt.cells, Pt.slots] at X244 l244 y244 z244 st244 hQ244
      subst l244 y244 z244
      obtain ⟨rfl, Nq244, eq244⟩ := hQ244
      have N244 := Fr.app Nj170 Nq244
      have pre245 : own_Go p e below S0 (T244.setTop (mkF m 238 #[.val (.int p1), .val (.int p2), .val (.int ((p1 &&& (2147483647 : Int32)) % (18 : Int32))), .val (.int (p2.toInt16.toInt32)), .val (.ref al), .val (.ref ah), .val (.ref wk), .val (.int (0 : Int32))] [(.int (1 : Int32))])) := by
        intro t kt
        refine pre243 t ?_
        refine st244.trans ?_
        show Steps p.tables e below (T244.setTop (mkF m 228 #[.val (.int p1), .val (.int p2), .val (.int ((p1 &&& (2147483647 : Int32)) % (18 : Int32))), .val (.int (p2.toInt16.toInt32)), .val (.ref al), .val (.ref ah), .val (.ref wk), .val (.int (0 : Int32))] [(.int (own_impl wk (p2.toInt16.toInt32) lv hv))])) _
        refine XS.iload X244.here hx rfl (hb hby at_228) rfl ?_
        show Steps p.tables e below (T244.setTop (mkF m 230 #[.val (.int p1), .val (.int p2), .val (.int ((p1 &&& (2147483647 : Int32)) % (18 : Int32))), .val (.int (p2.toInt16.toInt32)), .val (.ref al), .val (.ref ah), .val (.ref wk), .val (.int (0 : Int32))] [(.int (0 : Int32)), (.int (own_impl wk (p2.toInt16.toInt32) lv hv))])) _
        refine XS.icmpNo X244.here hx rfl (hb hby at_230) rfl (teq (by rw [own_impl, if_neg hc234, if_pos hc241])).2 ?_
        show Steps p.tables e below (T244.setTop (mkF m 233 #[.val (.int p1), .val (.int p2), .val (.int ((p1 &&& (2147483647 : Int32)) % (18 : Int32))), .val (.int (p2.toInt16.toInt32)), .val (.ref al), .val (.ref ah), .val (.ref wk), .val (.int (0 : Int32))] [])) _
        refine XS.iconst X244.here hx rfl (hb hby at_233) ?_
        show Steps p.tables e below (T244.setTop (mkF m 234 #[.val (.int p1), .val (.int p2), .val (.int ((p1 &&& (2147483647 : Int32)) % (18 : Int32))), .val (.int (p2.toInt16.toInt32)), .val (.ref al), .val (.ref ah), .val (.ref wk), .val (.int (0 : Int32))] [(.int (1 : Int32))])) _
        refine XS.goto X244.here hx rfl (pc0 := 234) (pc' := 238) rfl (hb hby at_234) (by decide) (by decide) ?_
        show Steps p.tables e below (T244.setTop (mkF m 238 #[.val (.int p1), .val (.int p2), .val (.int ((p1 &&& (2147483647 : Int32)) % (18 : Int32))), .val (.int (p2.toInt16.toInt32)), .val (.ref al), .val (.ref ah), .val (.ref wk), .val (.int (0 : Int32))] [(.int (1 : Int32))])) _
        exact kt
      obtain ⟨fs, hr, hrun, hended, hW, hsame⟩ := X244.leave (v := some (.int (1 : Int32))) (fun h => by rw [Bd.returns] at h; cases h)
      refine ⟨_, _, fin _ (pre245 _ ?_), hrun, hended, _, _, rfl, ?_, ⟨_, rfl⟩, hW, hsame.mono (by decide) (by decide)⟩
      · exact retN X244 hx (t := .boolean) Bd.returns (by simp) (hb hby at_238) hr
      · show Q0 Z p1 p2 wPRODUCE wFETCH wLIST_OFFSETS wMETADATA wOFFSET_COMMIT wOFFSET_FETCH wFIND_COORDINATOR wJOIN_GROUP wHEARTBEAT wLEAVE_GROUP wSYNC_GROUP wDESCRIBE_GROUPS wLIST_GROUPS wAPI_VERSIONS wCREATE_TOPICS wDELETE_TOPICS wINIT_PRODUCER_ID wCREATE_PARTITIONS h0 n0 _ T244.heap _
        rw [eq244]
        exact ⟨rfl, N244⟩
    · have pre246 : own_Go p e below S0 (Tj170.setTop (mkF m 225 #[.val (.int p1), .val (.int p2), .val (.int ((p1 &&& (2147483647 : Int32)) % (18 : Int32))), .val (.int (p2.toInt16.toInt32)), .val (.ref al), .val (.ref ah), .val (.ref wk), .val (.int (1 : Int32))] [(.int (p2.toInt16.toInt32)), (.ref wk)])) := by
        intro t kt
        refine pre242 t ?_
        refine XS.icmpNo Xj170.here hx rfl (hb hby at_212) rfl (flt hc241).2.2.1 ?_
        show Steps p.tables e below (Tj170.setTop (mkF m 215 #[.val (.int p1), .val (.int p2), .val (.int ((p1 &&& (2147483647 : Int32)) % (18 : Int32))), .val (.int (p2.toInt16.toInt32)), .val (.ref al), .val (.ref ah), .val (.ref wk), .unset] [])) _
        refine XS.iconst Xj170.here hx rfl (hb hby at_215) ?_
        show Steps p.tables e below (Tj170.setTop (mkF m 216 #[.val (.int p1), .val (.int p2), .val (.int ((p1 &&& (2147483647 : Int32)) % (18 : Int32))), .val (.int (p2.toInt16.toInt32)), .val (.ref al), .val (.ref ah), .val (.ref wk), .unset] [(.int (1 : Int32))])) _
        refine XS.goto Xj170.here hx rfl (pc0 := 216) (pc' := 220) rfl (hb hby at_216) (by decide) (by decide) ?_
        show Steps p.tables e below (Tj170.setTop (mkF m 220 #[.val (.int p1), .val (.int p2), .val (.int ((p1 &&& (2147483647 : Int32)) % (18 : Int32))), .val (.int (p2.toInt16.toInt32)), .val (.ref al), .val (.ref ah), .val (.ref wk), .unset] [(.int (1 : Int32))])) _
        refine XS.istore Xj170.here hx rfl (hb hby at_220) rfl (l' := #[.val (.int p1), .val (.int p2), .val (.int ((p1 &&& (2147483647 : Int32)) % (18 : Int32))), .val (.int (p2.toInt16.toInt32)), .val (.ref al), .val (.ref ah), .val (.ref wk), .val (.int (1 : Int32))]) rfl ?_
        show Steps p.tables e below (Tj170.setTop (mkF m 222 #[.val (.int p1), .val (.int p2), .val (.int ((p1 &&& (2147483647 : Int32)) % (18 : Int32))), .val (.int (p2.toInt16.toInt32)), .val (.ref al), .val (.ref ah), .val (.ref wk), .val (.int (1 : Int32))] [])) _
        refine XS.aload Xj170.here hx rfl (hb hby at_222) rfl rfl ?_
        show Steps p.tables e below (Tj170.setTop (mkF m 224 #[.val (.int p1), .val (.int p2), .val (.int ((p1 &&& (2147483647 : Int32)) % (18 : Int32))), .val (.int (p2.toInt16.toInt32)), .val (.ref al), .val (.ref ah), .val (.ref wk), .val (.int (1 : Int32))] [(.ref wk)])) _
        refine XS.iloadN Xj170.here hx rfl (hb hby at_224) rfl ?_
        show Steps p.tables e below (Tj170.setTop (mkF m 225 #[.val (.int p1), .val (.int p2), .val (.int ((p1 &&& (2147483647 : Int32)) % (18 : Int32))), .val (.int (p2.toInt16.toInt32)), .val (.ref al), .val (.ref ah), .val (.ref wk), .val (.int (1 : Int32))] [(.int (p2.toInt16.toInt32)), (.ref wk)])) _
        exact kt
      obtain ⟨cq247, kq247, qa247, qb247, qc247⟩ := isOf hZ ej170 qj229
      obtain ⟨_, _, ⟨T247, L247, k247, n247⟩, -, X247, ⟨Lc247, hQ247, l247, y247, z247⟩, st247⟩ := Xj170.virtualBack hx (y := (⟨"com/example/eurybates/eurybates/protocol/ApiKey", "implementsVersion", "(S)Z"⟩ : MethodName)) (z := (⟨"com/example/eurybates/eurybates/protocol/ApiKey", "implementsVersion", "(S)Z"⟩ : MethodName)) hown (mvT hZ (hw _ (own_w 9 rfl))) (mvT hZ (hw _ (own_w 10 rfl))) (notFace_of_selects (args := #[]) (mvT hZ (hw _ (own_w 12 rfl)))) (mvT hZ (hw _ (own_w 12 rfl))) (mvT hZ (hw _ (own_w 11 rfl))) (by decide) (backOf (W := 0) (rm2 l Z a0 hw [] wk (p2.toInt16.toInt32) lv hv hj1 n0 zs167 qj230 qj231) hZ (hw _ (own_w 13 rfl)) (hw _ (own_w 7 rfl)) (by decide) (by decide)) qa247 qc247 (g := (mkF m 225 #[.val (.int p1), .val (.int p2), .val (.int ((p1 &&& (2147483647 : Int32)) % (18 : Int32))), .val (.int (p2.toInt16.toInt32)), .val (.ref al), .val (.ref ah), .val (.ref wk), .val (.int (1 : Int32))] [(.int (p2.toInt16.toInt32)), (.ref wk)])) rfl (by rw [hml]; rfl) (Steps.refl _) (argsL := [(.int (p2.toInt16.toInt32))]) (rest := []) (lenOf pd_1 rfl) rfl (by show 2 * 0 + _ ≤ _; exact Nat.le_of_eq rfl) (hb hby at_225) (fun _ _ => ⟨rfl, ej170, (by decide : 2 + 0 ≤ _), (by decide : 36 + 0 ≤ _)⟩)
      dsimp only [Pt.U, Pt.locs, Pt.cells, Pt.slots] at X247 l247 y247 z247 st247 hQ247
      subst l247 y247 z247
      obtain ⟨rfl, Nq247, eq247⟩ := hQ247
      have N247 := Fr.app Nj170 Nq247
      have pre248 : own_Go p e below S0 (T247.setTop (mkF m 238 #[.val (.int p1), .val (.int p2), .val (.int ((p1 &&& (2147483647 : Int32)) % (18 : Int32))), .val (.int (p2.toInt16.toInt32)), .val (.ref al), .val (.ref ah), .val (.ref wk), .val (.int (1 : Int32))] [(.int (1 : Int32))])) := by
        intro t kt
        refine pre246 t ?_
        refine st247.trans ?_
        show Steps p.tables e below (T247.setTop (mkF m 228 #[.val (.int p1), .val (.int p2), .val (.int ((p1 &&& (2147483647 : Int32)) % (18 : Int32))), .val (.int (p2.toInt16.toInt32)), .val (.ref al), .val (.ref ah), .val (.ref wk), .val (.int (1 : Int32))] [(.int (own_impl wk (p2.toInt16.toInt32) lv hv))])) _
        refine XS.iload X247.here hx rfl (hb hby at_228) rfl ?_
        show Steps p.tables e below (T247.setTop (mkF m 230 #[.val (.int p1), .val (.int p2), .val (.int ((p1 &&& (2147483647 : Int32)) % (18 : Int32))), .val (.int (p2.toInt16.toInt32)), .val (.ref al), .val (.ref ah), .val (.ref wk), .val (.int (1 : Int32))] [(.int (1 : Int32)), (.int (own_impl wk (p2.toInt16.toInt32) lv hv))])) _
        refine XS.icmpNo X247.here hx rfl (hb hby at_230) rfl (teq (by rw [own_impl, if_neg hc234, if_neg hc241])).2 ?_
        show Steps p.tables e below (T247.setTop (mkF m 233 #[.val (.int p1), .val (.int p2), .val (.int ((p1 &&& (2147483647 : Int32)) % (18 : Int32))), .val (.int (p2.toInt16.toInt32)), .val (.ref al), .val (.ref ah), .val (.ref wk), .val (.int (1 : Int32))] [])) _
        refine XS.iconst X247.here hx rfl (hb hby at_233) ?_
        show Steps p.tables e below (T247.setTop (mkF m 234 #[.val (.int p1), .val (.int p2), .val (.int ((p1 &&& (2147483647 : Int32)) % (18 : Int32))), .val (.int (p2.toInt16.toInt32)), .val (.ref al), .val (.ref ah), .val (.ref wk), .val (.int (1 : Int32))] [(.int (1 : Int32))])) _
        refine XS.goto X247.here hx rfl (pc0 := 234) (pc' := 238) rfl (hb hby at_234) (by decide) (by decide) ?_
        show Steps p.tables e below (T247.setTop (mkF m 238 #[.val (.int p1), .val (.int p2), .val (.int ((p1 &&& (2147483647 : Int32)) % (18 : Int32))), .val (.int (p2.toInt16.toInt32)), .val (.ref al), .val (.ref ah), .val (.ref wk), .val (.int (1 : Int32))] [(.int (1 : Int32))])) _
        exact kt
      obtain ⟨fs, hr, hrun, hended, hW, hsame⟩ := X247.leave (v := some (.int (1 : Int32))) (fun h => by rw [Bd.returns] at h; cases h)
      refine ⟨_, _, fin _ (pre248 _ ?_), hrun, hended, _, _, rfl, ?_, ⟨_, rfl⟩, hW, hsame.mono (by decide) (by decide)⟩
      · exact retN X247 hx (t := .boolean) Bd.returns (by simp) (hb hby at_238) hr
      · show Q0 Z p1 p2 wPRODUCE wFETCH wLIST_OFFSETS wMETADATA wOFFSET_COMMIT wOFFSET_FETCH wFIND_COORDINATOR wJOIN_GROUP wHEARTBEAT wLEAVE_GROUP wSYNC_GROUP wDESCRIBE_GROUPS wLIST_GROUPS wAPI_VERSIONS wCREATE_TOPICS wDELETE_TOPICS wINIT_PRODUCER_ID wCREATE_PARTITIONS h0 n0 _ T247.heap _
        rw [eq247]
        exact ⟨rfl, N247⟩

set_option maxRecDepth 65536 in
set_option maxHeartbeats 40000000 in
theorem comes_1 {Post : Tables → Env → Array Value → State → Outcome → State → Prop} (hpost : ∀ tb e args s v u, (limb_1_1.after args s (.returned v) u = true ∧ limb_1_2.after args s (.returned v) u = true ∧ True) → FrameEnd s (.returned v) u (Jvm.fieldLocs frame_1_writes args s ++ Jvm.arrayLocs frame_1_arrays args s ++ Jvm.staticLocs frame_1_statics s) 16 192 → Post tb e args s (.returned v) u) :
    ArmFor flags0 classFile x code maxLocals ret World_1 tables_1 room_1 Calls_1 rest_1 Pre_1 Post := by
  intro l hfl _ _ p e ha hc hk s m args below hf hA hF happ hP
  obtain ⟨hcalls, hrest, hpre⟩ := hP
  obtain ⟨-, -, -, hnamed, -, -, -, hat⟩ := (Spec.applies_iff hf).mp happ
  obtain ⟨hg, hn⟩ := and_e (Cond.before_iff.mp (show (Jvm.Cond.and given_1 narrow_1).before args s = true from hpre))
  obtain ⟨hcount, hg0⟩ := and_e hg
  obtain ⟨ga0, hg1⟩ := and_e hg0
  have ga1 := hg1
  obtain ⟨w0, w1, rfl⟩ : ∃ w0 w1 : Value, args = #[w0, w1] := by
    have hs : args.size = 2 := by simpa [Cond.value, given_1] using hcount
    obtain ⟨L⟩ := args
    match L, hs with
    | [w0, w1], _ => exact ⟨w0, w1, rfl⟩
  have hw := fun d (hd : d ∈ tables_1) => atoms_spec (ws := Jvm.Cond.code x code maxLocals ret :: tables_1) hat d (List.mem_cons_of_mem _ hd)
  have hfit : Fit s := fun {y c} hc i hi => by
    obtain ⟨ha, rfl⟩ := Array.getElem?_eq_some_iff.mp hc
    have q := List.all_eq_true.mp ((Array.all_eq_true_iff_forall_mem.mp hF) _ (Array.getElem_mem ha)) i (List.mem_range.mpr hi)
    simpa [Array.getElem?_eq_getElem hi] using q
  obtain ⟨i0, ei0⟩ := is_v ga0
  obtain rfl : w0 = (.int i0) := Option.some.inj ei0
  obtain ⟨i1, ei1⟩ := is_v ga1
  obtain rfl : w1 = (.int i1) := Option.some.inj ei1
  obtain ⟨nr1, nr2⟩ := and_e hn
  obtain ⟨nr3, nr4⟩ := and_e nr2
  obtain ⟨nr5, nr6⟩ := and_e nr4
  obtain ⟨nr7, nr8⟩ := and_e nr6
  obtain ⟨nr9, nr10⟩ := and_e nr8
  obtain ⟨nr11, nr12⟩ := and_e nr10
  obtain ⟨nr13, nr14⟩ := and_e nr12
  obtain ⟨nr15, nr16⟩ := and_e nr14
  obtain ⟨nr17, nr18⟩ := and_e nr16
  obtain ⟨nr19, nr20⟩ := and_e nr18
  obtain ⟨nr21, nr22⟩ := and_e nr20
  obtain ⟨nr23, nr24⟩ := and_e nr22
  obtain ⟨nr25, nr26⟩ := and_e nr24
  obtain ⟨nr27, nr28⟩ := and_e nr26
  obtain ⟨nr29, nr30⟩ := and_e nr28
  obtain ⟨nr31, nr32⟩ := and_e nr30
  obtain ⟨nr33, nr34⟩ := and_e nr32
  obtain ⟨nr35, nr36⟩ := and_e nr34
  obtain ⟨nr37, nr38⟩ := and_e nr36
  obtain ⟨nr39, nr40⟩ := and_e nr38
  obtain ⟨nr41, nr42⟩ := and_e nr40
  obtain ⟨nr43, nr44⟩ := and_e nr42
  obtain ⟨nr45, nr46⟩ := and_e nr44
  obtain ⟨nr47, nr48⟩ := and_e nr46
  obtain ⟨nr49, nr50⟩ := and_e nr48
  obtain ⟨nr51, nr52⟩ := and_e nr50
  obtain ⟨nr53, nr54⟩ := and_e nr52
  obtain ⟨nr55, nr56⟩ := and_e nr54
  obtain ⟨nr57, nr58⟩ := and_e nr56
  obtain ⟨nr59, nr60⟩ := and_e nr58
  obtain ⟨nr61, nr62⟩ := and_e nr60
  obtain ⟨nr63, nr64⟩ := and_e nr62
  obtain ⟨nr65, nr66⟩ := and_e nr64
  obtain ⟨nr67, nr68⟩ := and_e nr66
  obtain ⟨nr69, nr70⟩ := and_e nr68
  obtain ⟨nr71, nr72⟩ := and_e nr70
  obtain ⟨nr73, nr74⟩ := and_e nr72
  obtain ⟨nr75, nr76⟩ := and_e nr74
  obtain ⟨nr77, nr78⟩ := and_e nr76
  obtain ⟨nr79, nr80⟩ := and_e nr78
  obtain ⟨nr81, nr82⟩ := and_e nr80
  obtain ⟨nr83, nr84⟩ := and_e nr82
  obtain ⟨nr85, nr86⟩ := and_e nr84
  obtain ⟨nr87, nr88⟩ := and_e nr86
  obtain ⟨nr89, nr90⟩ := and_e nr88
  obtain ⟨nr91, nr92⟩ := and_e nr90
  obtain ⟨nr93, nr94⟩ := and_e nr92
  obtain ⟨nr95, nr96⟩ := and_e nr94
  obtain ⟨nr97, nr98⟩ := and_e nr96
  obtain ⟨nr99, nr100⟩ := and_e nr98
  obtain ⟨nr101, nr102⟩ := and_e nr100
  obtain ⟨nr103, nr104⟩ := and_e nr102
  obtain ⟨nr105, nr106⟩ := and_e nr104
  obtain ⟨w107, ev108⟩ := exa_v nr1
  have S_PRODUCE := Sta.start ev108 (Or.inr ⟨(hw _ (own_w 7 rfl)), (hw _ (own_w 8 rfl))⟩)
  have E_109 := Exa.start ev108 nr1
  obtain ⟨w110, ev111⟩ := exa_v nr7
  have S_CREATE_TOPICS := Sta.start ev111 (Or.inr ⟨(hw _ (own_w 7 rfl)), (hw _ (own_w 19 rfl))⟩)
  have E_112 := Exa.start ev111 nr7
  obtain ⟨w113, ev114⟩ := exa_v nr13
  have S_OFFSET_COMMIT := Sta.start ev114 (Or.inr ⟨(hw _ (own_w 7 rfl)), (hw _ (own_w 21 rfl))⟩)
  have E_115 := Exa.start ev114 nr13
  obtain ⟨w116, ev117⟩ := exa_v nr17
  have S_FETCH := Sta.start ev117 (Or.inr ⟨(hw _ (own_w 7 rfl)), (hw _ (own_w 23 rfl))⟩)
  have E_118 := Exa.start ev117 nr17
  obtain ⟨w119, ev120⟩ := exa_v nr23
  have S_FIND_COORDINATOR := Sta.start ev120 (Or.inr ⟨(hw _ (own_w 7 rfl)), (hw _ (own_w 25 rfl))⟩)
  have E_121 := Exa.start ev120 nr23
  obtain ⟨w122, ev123⟩ := exa_v nr29
  have S_HEARTBEAT := Sta.start ev123 (Or.inr ⟨(hw _ (own_w 7 rfl)), (hw _ (own_w 27 rfl))⟩)
  have E_124 := Exa.start ev123 nr29
  obtain ⟨w125, ev126⟩ := exa_v nr33
  have S_LIST_GROUPS := Sta.start ev126 (Or.inr ⟨(hw _ (own_w 7 rfl)), (hw _ (own_w 29 rfl))⟩)
  have E_127 := Exa.start ev126 nr33
  obtain ⟨w128, ev129⟩ := exa_v nr39
  have S_DESCRIBE_GROUPS := Sta.start ev129 (Or.inr ⟨(hw _ (own_w 7 rfl)), (hw _ (own_w 31 rfl))⟩)
  have E_130 := Exa.start ev129 nr39
  obtain ⟨w131, ev132⟩ := exa_v nr45
  have S_METADATA := Sta.start ev132 (Or.inr ⟨(hw _ (own_w 7 rfl)), (hw _ (own_w 33 rfl))⟩)
  have E_133 := Exa.start ev132 nr45
  obtain ⟨w134, ev135⟩ := exa_v nr51
  have S_DELETE_TOPICS := Sta.start ev135 (Or.inr ⟨(hw _ (own_w 7 rfl)), (hw _ (own_w 35 rfl))⟩)
  have E_136 := Exa.start ev135 nr51
  obtain ⟨w137, ev138⟩ := exa_v nr57
  have S_LEAVE_GROUP := Sta.start ev138 (Or.inr ⟨(hw _ (own_w 7 rfl)), (hw _ (own_w 37 rfl))⟩)
  have E_139 := Exa.start ev138 nr57
  obtain ⟨w140, ev141⟩ := exa_v nr63
  have S_SYNC_GROUP := Sta.start ev141 (Or.inr ⟨(hw _ (own_w 7 rfl)), (hw _ (own_w 39 rfl))⟩)
  have E_142 := Exa.start ev141 nr63
  obtain ⟨w143, ev144⟩ := exa_v nr67
  have S_LIST_OFFSETS := Sta.start ev144 (Or.inr ⟨(hw _ (own_w 7 rfl)), (hw _ (own_w 41 rfl))⟩)
  have E_145 := Exa.start ev144 nr67
  obtain ⟨w146, ev147⟩ := exa_v nr73
  have S_API_VERSIONS := Sta.start ev147 (Or.inr ⟨(hw _ (own_w 7 rfl)), (hw _ (own_w 43 rfl))⟩)
  have E_148 := Exa.start ev147 nr73
  obtain ⟨w149, ev150⟩ := exa_v nr79
  have S_JOIN_GROUP := Sta.start ev150 (Or.inr ⟨(hw _ (own_w 7 rfl)), (hw _ (own_w 45 rfl))⟩)
  have E_151 := Exa.start ev150 nr79
  obtain ⟨w152, ev153⟩ := exa_v nr87
  have S_CREATE_PARTITIONS := Sta.start ev153 (Or.inr ⟨(hw _ (own_w 7 rfl)), (hw _ (own_w 47 rfl))⟩)
  have E_154 := Exa.start ev153 nr87
  obtain ⟨w155, ev156⟩ := exa_v nr93
  have S_INIT_PRODUCER_ID := Sta.start ev156 (Or.inr ⟨(hw _ (own_w 7 rfl)), (hw _ (own_w 49 rfl))⟩)
  have E_157 := Exa.start ev156 nr93
  obtain ⟨w158, ev159⟩ := exa_v nr97
  have S_OFFSET_FETCH := Sta.start ev159 (Or.inr ⟨(hw _ (own_w 7 rfl)), (hw _ (own_w 51 rfl))⟩)
  have E_160 := Exa.start ev159 nr97
  have F_oldestVersion161 := Fld.start ((fld_at ev108).symm.trans (own_eqI nr3))
  have F_latestVersion162 := Fld.start ((fld_at ev108).symm.trans (own_eqI nr5))
  have F_oldestVersion163 := Fld.start ((fld_at ev111).symm.trans (own_eqI nr9))
  have F_latestVersion164 := Fld.start ((fld_at ev111).symm.trans (own_eqI nr11))
  have F_oldestVersion165 := Fld.start ((fld_at ev114).symm.trans (own_eqI nr15))
  have F_oldestVersion166 := Fld.start ((fld_at ev117).symm.trans (own_eqI nr19))
  have F_latestVersion167 := Fld.start ((fld_at ev117).symm.trans (own_eqI nr21))
  have F_oldestVersion168 := Fld.start ((fld_at ev120).symm.trans (own_eqI nr25))
  have F_latestVersion169 := Fld.start ((fld_at ev120).symm.trans (own_eqI nr27))
  have F_oldestVersion170 := Fld.start ((fld_at ev123).symm.trans (own_eqI nr31))
  have F_oldestVersion171 := Fld.start ((fld_at ev126).symm.trans (own_eqI nr35))
  have F_latestVersion172 := Fld.start ((fld_at ev126).symm.trans (own_eqI nr37))
  have F_oldestVersion173 := Fld.start ((fld_at ev129).symm.trans (own_eqI nr41))
  have F_latestVersion174 := Fld.start ((fld_at ev129).symm.trans (own_eqI nr43))
  have F_oldestVersion175 := Fld.start ((fld_at ev132).symm.trans (own_eqI nr47))
  have F_latestVersion176 := Fld.start ((fld_at ev132).symm.trans (own_eqI nr49))
  have F_oldestVersion177 := Fld.start ((fld_at ev135).symm.trans (own_eqI nr53))
  have F_latestVersion178 := Fld.start ((fld_at ev123).symm.trans (own_eqI nr55))
  have F_oldestVersion179 := Fld.start ((fld_at ev138).symm.trans (own_eqI nr59))
  have F_latestVersion180 := Fld.start ((fld_at ev138).symm.trans (own_eqI nr61))
  have F_oldestVersion181 := Fld.start ((fld_at ev141).symm.trans (own_eqI nr65))
  have F_oldestVersion182 := Fld.start ((fld_at ev144).symm.trans (own_eqI nr69))
  have F_latestVersion183 := Fld.start ((fld_at ev144).symm.trans (own_eqI nr71))
  have F_oldestVersion184 := Fld.start ((fld_at ev147).symm.trans (own_eqI nr75))
  have F_latestVersion185 := Fld.start ((fld_at ev147).symm.trans (own_eqI nr77))
  have F_oldestVersion186 := Fld.start ((fld_at ev150).symm.trans (own_eqI nr81))
  have F_latestVersion187 := Fld.start ((fld_at ev150).symm.trans (own_eqI nr83))
  have F_latestVersion188 := Fld.start ((fld_at ev141).symm.trans (own_eqI nr85))
  have F_oldestVersion189 := Fld.start ((fld_at ev153).symm.trans (own_eqI nr89))
  have F_latestVersion190 := Fld.start ((fld_at ev153).symm.trans (own_eqI nr91))
  have F_oldestVersion191 := Fld.start ((fld_at ev156).symm.trans (own_eqI nr95))
  have F_oldestVersion192 := Fld.start ((fld_at ev159).symm.trans (own_eqI nr99))
  have F_latestVersion193 := Fld.start ((fld_at ev159).symm.trans (own_eqI nr101))
  have F_latestVersion194 := Fld.start ((fld_at ev156).symm.trans (own_eqI nr103))
  have F_latestVersion195 := Fld.start ((fld_at ev135).symm.trans (own_eqI nr105))
  have F_latestVersion196 := Fld.start ((fld_at ev114).symm.trans (own_eqI nr106))
  obtain ⟨n, o, h1, h2, h3, _, L, rfl, ⟨rfl, N⟩, hq⟩ := rm0 l s _ hw tables_1 i0 i1 w107 w116 w143 w131 w113 w158 w119 w149 w122 w137 w140 w128 w125 w146 w110 w134 w155 w152 s.heap s.heap.size (Nat.le_refl _) (Old.start s) ⟨⟨S_PRODUCE, E_109, F_oldestVersion161, F_latestVersion162⟩, ⟨S_FETCH, E_118, F_oldestVersion166, F_latestVersion167⟩, ⟨S_LIST_OFFSETS, E_145, F_oldestVersion182, F_latestVersion183⟩, ⟨S_METADATA, E_133, F_oldestVersion175, F_latestVersion176⟩, ⟨S_OFFSET_COMMIT, E_115, F_oldestVersion165, F_latestVersion196⟩, ⟨S_OFFSET_FETCH, E_160, F_oldestVersion192, F_latestVersion193⟩, ⟨S_FIND_COORDINATOR, E_121, F_oldestVersion168, F_latestVersion169⟩, ⟨S_JOIN_GROUP, E_151, F_oldestVersion186, F_latestVersion187⟩, ⟨S_HEARTBEAT, E_124, F_oldestVersion170, F_latestVersion178⟩, ⟨S_LEAVE_GROUP, E_139, F_oldestVersion179, F_latestVersion180⟩, ⟨S_SYNC_GROUP, E_142, F_oldestVersion181, F_latestVersion188⟩, ⟨S_DESCRIBE_GROUPS, E_130, F_oldestVersion173, F_latestVersion174⟩, ⟨S_LIST_GROUPS, E_127, F_oldestVersion171, F_latestVersion172⟩, ⟨S_API_VERSIONS, E_148, F_oldestVersion184, F_latestVersion185⟩, ⟨S_CREATE_TOPICS, E_112, F_oldestVersion163, F_latestVersion164⟩, ⟨S_DELETE_TOPICS, E_136, F_oldestVersion177, F_latestVersion195⟩, ⟨S_INIT_PRODUCER_ID, E_157, F_oldestVersion191, F_latestVersion194⟩, ⟨S_CREATE_PARTITIONS, E_154, F_oldestVersion189, F_latestVersion190⟩⟩ p e ha hc hk s m _ below hf ((Spec.applies_iff_loose hf).mp happ).1 ⟨rfl, State.Warmed39.refl s, rfl⟩ trivial
  refine ⟨n, _, h1, h2, h3, hpost _ _ _ _ _ _ ⟨Cond.after_iff.mpr rfl, Cond.after_iff.mpr (eq_i res_at (Term.int_eval (1)) rfl), trivial⟩ ⟨hq.1, hq.2.1, (hq.2.2.sift fun y hy => Or.inr (N y hy)).mono (by decide) (by decide)⟩⟩
theorem main_1_1 : Claimed_1_1 := comes_1 fun _ _ _ _ _ _ h hF => ⟨h.1, hF⟩
theorem main_1_2 : Claimed_1_2 := comes_1 fun _ _ _ _ _ _ h hF => ⟨h.2.1, hF⟩

end Jvm.Pilot.@@N@@
namespace Jvm.Pilot.@@N@@
open Jvm Jvm.ClassFile Sem Op Lib Jvm.Free Jvm.Stand Jvm.Pilot.@@N@@.Jvm.D
/-! MADE BY PROGRAM (witnessworld.py) out of the Statement's table words and the real class files: 12 classes; the members and pool entries that the words name. The judged class is class 1, her method 2. -/
namespace start1
open Jvm.ClassFile
def u (s : String) : CpInfo := .utf8 (stringToUtf16 s)
/-- a pool by its gaps: so many unusable entries, then the entry; so many at the end -/
def gap : Nat → List CpInfo → List CpInfo
  | 0, r => r
  | n + 1, r => .unusable :: gap n r
def poolList (es : List (Nat × CpInfo)) (last : Nat) : List CpInfo := es.foldr (fun e r => gap e.1 (e.2 :: r)) (gap last [])
def pool (es : List (Nat × CpInfo)) (last : Nat) : Array CpInfo := ⟨poolList es last⟩
def fileOf (pool : Array CpInfo) (this : Nat) (attrs : Array Attribute := #[]) (ms : Array MethodInfo := #[]) (fl : Nat := 33) (sup : Nat := 0) (ifs : Array Nat := #[]) (fds : Array FieldInfo := #[]) : ClassFile where
  minorVersion := 0
  majorVersion := 65
  constantPool := pool
  accessFlags := fl
  thisClass := this
  superClass := sup
  interfaces := ifs
  fields := fds
  methods := ms
  attributes := attrs
def plain (name : String) (sup : Option ClassId) : Class where
  name := name
  kind := .ordinary
  loader := none
  accessFlags := 33
  super := sup
  interfaces := #[]
  cf := none
  fields := #[]
  methods := #[]
  instanceTypes := #[]
  staticTypes := #[]
  resolved := #[]
  callSites := []
  init := .initialized
  statics := none
  mirror := none

def pool0 : Array CpInfo := pool [(5, u "<init>"), (0, u "()V"), (1, .class_ 10), (1, u "java/lang/Object")] 113

def k0m0 : Method := { name := "<init>", desc := "()V", sig := { parameters := [], returnType := none }, accessFlags := 1, code := none }
/-- java/lang/Object -/
def k0 : Class := { plain "java/lang/Object" none with
  accessFlags := 33
  interfaces := #[]
  cf := some (fileOf pool0 8 #[] #[{ accessFlags := 1, nameIndex := 5, descriptorIndex := 6, attributes := #[] }] 33 0 #[] #[])
  fields := #[]
  methods := #[k0m0]
  instanceTypes := #[]
  staticTypes := #[]
  resolved := Array.replicate 124 none
  statics := none }

def pool1 : Array CpInfo := pool [(2, .class_ 4), (1, u "java/lang/Object"), (0, u "<init>"), (0, u "()V"), (0, .fieldref 8 9), (0, .class_ 10), (0, .nameAndType 11 12), (0, u "com/example/eurybates/eurybates/protocol/ApiKey"), (0, u "PRODUCE"), (0, u "Lcom/example/eurybates/eurybates/protocol/ApiKey;"), (0, .fieldref 8 14), (0, .nameAndType 15 12), (0, u "FETCH"), (0, .fieldref 8 17), (0, .nameAndType 18 12), (0, u "LIST_OFFSETS"), (0, .fieldref 8 20), (0, .nameAndType 21 12), (0, u "METADATA"), (0, .fieldref 8 23), (0, .nameAndType 24 12), (0, u "OFFSET_COMMIT"), (0, .fieldref 8 26), (0, .nameAndType 27 12), (0, u "OFFSET_FETCH"), (0, .fieldref 8 29), (0, .nameAndType 30 12), (0, u "FIND_COORDINATOR"), (0, .fieldref 8 32), (0, .nameAndType 33 12), (0, u "JOIN_GROUP"), (0, .fieldref 8 35), (0, .nameAndType 36 12), (0, u "HEARTBEAT"), (0, .fieldref 8 38), (0, .nameAndType 39 12), (0, u "LEAVE_GROUP"), (0, .fieldref 8 41), (0, .nameAndType 42 12), (0, u "SYNC_GROUP"), (0, .fieldref 8 44), (0, .nameAndType 45 12), (0, u "DESCRIBE_GROUPS"), (0, .fieldref 8 47), (0, .nameAndType 48 12), (0, u "LIST_GROUPS"), (0, .fieldref 8 50), (0, .nameAndType 51 12), (0, u "API_VERSIONS"), (0, .fieldref 8 53), (0, .nameAndType 54 12), (0, u "CREATE_TOPICS"), (0, .fieldref 8 56), (0, .nameAndType 57 12), (0, u "DELETE_TOPICS"), (0, .fieldref 8 59), (0, .nameAndType 60 12), (0, u "INIT_PRODUCER_ID"), (0, .fieldref 8 62), (0, .nameAndType 63 12), (0, u "CREATE_PARTITIONS"), (0, .integer 2147483647), (0, .methodref 66 67), (0, .class_ 68), (0, .nameAndType 69 70), (0, u "com/example/eurybates/eurybates/protocol/ApiKeyImplementsVersionPinLaw"), (0, u "pick"), (0, u "(I)Lcom/example/eurybates/eurybates/protocol/ApiKey;"), (0, .methodref 8 72), (0, .nameAndType 73 74), (0, u "implementsVersion"), (0, u "(S)Z"), (3, u "law"), (0, u "(II)Z")] 4

def k1m0 : Method := { name := "<init>", desc := "()V", sig := { parameters := [], returnType := none }, accessFlags := 1, code := none }
def k1c1 : Code := { maxStack := 2, maxLocals := 1, code := method_2_code, exceptionTable := #[], attributes := #[] }
def k1m1 : Method := { name := "pick", desc := "(I)Lcom/example/eurybates/eurybates/protocol/ApiKey;", sig := { parameters := [.int], returnType := some (.object "com/example/eurybates/eurybates/protocol/ApiKey") }, accessFlags := 10, code := some k1c1 }
def k1c2 : Code := { maxStack := 4, maxLocals := 8, code := code, exceptionTable := #[], attributes := #[] }
def k1m2 : Method := { name := "law", desc := "(II)Z", sig := { parameters := [.int, .int], returnType := some .boolean }, accessFlags := 9, code := some k1c2 }
/-- com/example/eurybates/eurybates/protocol/ApiKeyImplementsVersionPinLaw -/
def k1 : Class := { plain "com/example/eurybates/eurybates/protocol/ApiKeyImplementsVersionPinLaw" (some 0) with
  accessFlags := 49
  interfaces := #[]
  cf := some (fileOf pool1 66 #[] #[{ accessFlags := 1, nameIndex := 5, descriptorIndex := 6, attributes := #[] }, { accessFlags := 10, nameIndex := 69, descriptorIndex := 70, attributes := #[] }, { accessFlags := 9, nameIndex := 78, descriptorIndex := 79, attributes := #[] }] 49 2 #[] #[])
  fields := #[]
  methods := #[k1m0, k1m1, k1m2]
  instanceTypes := #[]
  staticTypes := #[]
  resolved := Array.replicate 84 none
  statics := none }

def pool2 : Array CpInfo := pool [(1, .class_ 2), (0, u "java/lang/constant/Constable"), (0, .class_ 4), (0, u "java/lang/Object")] 6

/-- java/lang/constant/Constable -/
def k2 : Class := { plain "java/lang/constant/Constable" (some 0) with
  accessFlags := 1537
  interfaces := #[]
  cf := some (fileOf pool2 1 #[] #[] 1537 3 #[] #[])
  fields := #[]
  methods := #[]
  instanceTypes := #[]
  staticTypes := #[]
  resolved := Array.replicate 11 none
  statics := none }

def pool3 : Array CpInfo := pool [(1, .class_ 2), (0, u "java/lang/Comparable"), (0, .class_ 4), (0, u "java/lang/Object")] 7

/-- java/lang/Comparable -/
def k3 : Class := { plain "java/lang/Comparable" (some 0) with
  accessFlags := 1537
  interfaces := #[]
  cf := some (fileOf pool3 1 #[] #[] 1537 3 #[] #[])
  fields := #[]
  methods := #[]
  instanceTypes := #[]
  staticTypes := #[]
  resolved := Array.replicate 12 none
  statics := none }

def pool4 : Array CpInfo := pool [(1, .class_ 2), (0, u "java/io/Serializable"), (0, .class_ 4), (0, u "java/lang/Object")] 2

/-- java/io/Serializable -/
def k4 : Class := { plain "java/io/Serializable" (some 0) with
  accessFlags := 1537
  interfaces := #[]
  cf := some (fileOf pool4 1 #[] #[] 1537 3 #[] #[])
  fields := #[]
  methods := #[]
  instanceTypes := #[]
  staticTypes := #[]
  resolved := Array.replicate 7 none
  statics := none }

def pool5 : Array CpInfo := pool [(2, .class_ 4), (1, u "java/lang/Enum"), (0, u "name"), (0, u "Ljava/lang/String;"), (2, u "ordinal"), (0, u "I"), (1, .class_ 14), (1, u "java/lang/Object"), (4, u "hash"), (86, .class_ 108), (1, u "java/lang/Enum$EnumDesc"), (2, .class_ 112), (0, u "java/lang/constant/Constable"), (0, .class_ 114), (0, u "java/lang/Comparable"), (0, .class_ 116), (0, u "java/io/Serializable")] 87

/-- java/lang/Enum -/
def k5 : Class := { plain "java/lang/Enum" (some 0) with
  accessFlags := 1057
  interfaces := #[2, 3, 4]
  cf := some (fileOf pool5 2 #[.nestMembers #[106]] #[] 1057 12 #[111, 113, 115] #[{ accessFlags := 18, nameIndex := 5, descriptorIndex := 6, attributes := #[] }, { accessFlags := 18, nameIndex := 9, descriptorIndex := 10, attributes := #[] }, { accessFlags := 2, nameIndex := 19, descriptorIndex := 10, attributes := #[] }])
  fields := #[{ name := "name", type := (.object "java/lang/String"), accessFlags := 18, slot := 0, constantValue := 0 }, { name := "ordinal", type := .int, accessFlags := 18, slot := 1, constantValue := 0 }, { name := "hash", type := .int, accessFlags := 2, slot := 2, constantValue := 0 }]
  methods := #[]
  instanceTypes := #[(.object "java/lang/String"), .int, .int]
  staticTypes := #[]
  resolved := Array.replicate 204 none
  statics := none }

def pool6 : Array CpInfo := pool [(1, .class_ 2), (0, u "com/example/eurybates/eurybates/protocol/ApiKey"), (2, u "PRODUCE"), (0, u "Lcom/example/eurybates/eurybates/protocol/ApiKey;"), (2, u "FETCH"), (2, u "LIST_OFFSETS"), (2, u "METADATA"), (2, u "OFFSET_COMMIT"), (2, u "OFFSET_FETCH"), (2, u "FIND_COORDINATOR"), (2, u "JOIN_GROUP"), (2, u "HEARTBEAT"), (2, u "LEAVE_GROUP"), (2, u "SYNC_GROUP"), (2, u "DESCRIBE_GROUPS"), (2, u "LIST_GROUPS"), (2, u "API_VERSIONS"), (2, u "CREATE_TOPICS"), (2, u "DELETE_TOPICS"), (2, u "INIT_PRODUCER_ID"), (2, u "CREATE_PARTITIONS"), (2, u "$VALUES"), (0, u "[Lcom/example/eurybates/eurybates/protocol/ApiKey;"), (6, .class_ 70), (1, u "java/lang/Enum"), (8, u "id"), (0, u "S"), (0, .fieldref 1 82), (0, .nameAndType 83 80), (0, u "oldestVersion"), (0, .fieldref 1 85), (0, .nameAndType 86 80), (0, u "latestVersion"), (2, u "firstFlexibleVersion"), (27, u "(S)Z"), (34, u "implementsVersion")] 30

def k6c0 : Code := { maxStack := 2, maxLocals := 2, code := prog_35_method_8_code, exceptionTable := #[], attributes := #[] }
def k6m0 : Method := { name := "implementsVersion", desc := "(S)Z", sig := { parameters := [.short], returnType := some .boolean }, accessFlags := 1, code := some k6c0 }
/-- com/example/eurybates/eurybates/protocol/ApiKey -/
def k6 : Class := { plain "com/example/eurybates/eurybates/protocol/ApiKey" (some 5) with
  accessFlags := 16433
  interfaces := #[]
  cf := some (fileOf pool6 1 #[] #[{ accessFlags := 1, nameIndex := 152, descriptorIndex := 117, attributes := #[] }] 16433 68 #[] #[{ accessFlags := 16409, nameIndex := 5, descriptorIndex := 6, attributes := #[] }, { accessFlags := 16409, nameIndex := 9, descriptorIndex := 6, attributes := #[] }, { accessFlags := 16409, nameIndex := 12, descriptorIndex := 6, attributes := #[] }, { accessFlags := 16409, nameIndex := 15, descriptorIndex := 6, attributes := #[] }, { accessFlags := 16409, nameIndex := 18, descriptorIndex := 6, attributes := #[] }, { accessFlags := 16409, nameIndex := 21, descriptorIndex := 6, attributes := #[] }, { accessFlags := 16409, nameIndex := 24, descriptorIndex := 6, attributes := #[] }, { accessFlags := 16409, nameIndex := 27, descriptorIndex := 6, attributes := #[] }, { accessFlags := 16409, nameIndex := 30, descriptorIndex := 6, attributes := #[] }, { accessFlags := 16409, nameIndex := 33, descriptorIndex := 6, attributes := #[] }, { accessFlags := 16409, nameIndex := 36, descriptorIndex := 6, attributes := #[] }, { accessFlags := 16409, nameIndex := 39, descriptorIndex := 6, attributes := #[] }, { accessFlags := 16409, nameIndex := 42, descriptorIndex := 6, attributes := #[] }, { accessFlags := 16409, nameIndex := 45, descriptorIndex := 6, attributes := #[] }, { accessFlags := 16409, nameIndex := 48, descriptorIndex := 6, attributes := #[] }, { accessFlags := 16409, nameIndex := 51, descriptorIndex := 6, attributes := #[] }, { accessFlags := 16409, nameIndex := 54, descriptorIndex := 6, attributes := #[] }, { accessFlags := 16409, nameIndex := 57, descriptorIndex := 6, attributes := #[] }, { accessFlags := 18, nameIndex := 79, descriptorIndex := 80, attributes := #[] }, { accessFlags := 18, nameIndex := 83, descriptorIndex := 80, attributes := #[] }, { accessFlags := 18, nameIndex := 86, descriptorIndex := 80, attributes := #[] }, { accessFlags := 18, nameIndex := 89, descriptorIndex := 80, attributes := #[] }, { accessFlags := 4122, nameIndex := 60, descriptorIndex := 61, attributes := #[] }])
  fields := #[{ name := "PRODUCE", type := (.object "com/example/eurybates/eurybates/protocol/ApiKey"), accessFlags := 16409, slot := 0, constantValue := 0 }, { name := "FETCH", type := (.object "com/example/eurybates/eurybates/protocol/ApiKey"), accessFlags := 16409, slot := 1, constantValue := 0 }, { name := "LIST_OFFSETS", type := (.object "com/example/eurybates/eurybates/protocol/ApiKey"), accessFlags := 16409, slot := 2, constantValue := 0 }, { name := "METADATA", type := (.object "com/example/eurybates/eurybates/protocol/ApiKey"), accessFlags := 16409, slot := 3, constantValue := 0 }, { name := "OFFSET_COMMIT", type := (.object "com/example/eurybates/eurybates/protocol/ApiKey"), accessFlags := 16409, slot := 4, constantValue := 0 }, { name := "OFFSET_FETCH", type := (.object "com/example/eurybates/eurybates/protocol/ApiKey"), accessFlags := 16409, slot := 5, constantValue := 0 }, { name := "FIND_COORDINATOR", type := (.object "com/example/eurybates/eurybates/protocol/ApiKey"), accessFlags := 16409, slot := 6, constantValue := 0 }, { name := "JOIN_GROUP", type := (.object "com/example/eurybates/eurybates/protocol/ApiKey"), accessFlags := 16409, slot := 7, constantValue := 0 }, { name := "HEARTBEAT", type := (.object "com/example/eurybates/eurybates/protocol/ApiKey"), accessFlags := 16409, slot := 8, constantValue := 0 }, { name := "LEAVE_GROUP", type := (.object "com/example/eurybates/eurybates/protocol/ApiKey"), accessFlags := 16409, slot := 9, constantValue := 0 }, { name := "SYNC_GROUP", type := (.object "com/example/eurybates/eurybates/protocol/ApiKey"), accessFlags := 16409, slot := 10, constantValue := 0 }, { name := "DESCRIBE_GROUPS", type := (.object "com/example/eurybates/eurybates/protocol/ApiKey"), accessFlags := 16409, slot := 11, constantValue := 0 }, { name := "LIST_GROUPS", type := (.object "com/example/eurybates/eurybates/protocol/ApiKey"), accessFlags := 16409, slot := 12, constantValue := 0 }, { name := "API_VERSIONS", type := (.object "com/example/eurybates/eurybates/protocol/ApiKey"), accessFlags := 16409, slot := 13, constantValue := 0 }, { name := "CREATE_TOPICS", type := (.object "com/example/eurybates/eurybates/protocol/ApiKey"), accessFlags := 16409, slot := 14, constantValue := 0 }, { name := "DELETE_TOPICS", type := (.object "com/example/eurybates/eurybates/protocol/ApiKey"), accessFlags := 16409, slot := 15, constantValue := 0 }, { name := "INIT_PRODUCER_ID", type := (.object "com/example/eurybates/eurybates/protocol/ApiKey"), accessFlags := 16409, slot := 16, constantValue := 0 }, { name := "CREATE_PARTITIONS", type := (.object "com/example/eurybates/eurybates/protocol/ApiKey"), accessFlags := 16409, slot := 17, constantValue := 0 }, { name := "id", type := .short, accessFlags := 18, slot := 3, constantValue := 0 }, { name := "oldestVersion", type := .short, accessFlags := 18, slot := 4, constantValue := 0 }, { name := "latestVersion", type := .short, accessFlags := 18, slot := 5, constantValue := 0 }, { name := "firstFlexibleVersion", type := .short, accessFlags := 18, slot := 6, constantValue := 0 }, { name := "$VALUES", type := (.array (.object "com/example/eurybates/eurybates/protocol/ApiKey")), accessFlags := 4122, slot := 18, constantValue := 0 }]
  methods := #[k6m0]
  instanceTypes := #[(.object "java/lang/String"), .int, .int, .short, .short, .short, .short]
  staticTypes := #[(.object "com/example/eurybates/eurybates/protocol/ApiKey"), (.object "com/example/eurybates/eurybates/protocol/ApiKey"), (.object "com/example/eurybates/eurybates/protocol/ApiKey"), (.object "com/example/eurybates/eurybates/protocol/ApiKey"), (.object "com/example/eurybates/eurybates/protocol/ApiKey"), (.object "com/example/eurybates/eurybates/protocol/ApiKey"), (.object "com/example/eurybates/eurybates/protocol/ApiKey"), (.object "com/example/eurybates/eurybates/protocol/ApiKey"), (.object "com/example/eurybates/eurybates/protocol/ApiKey"), (.object "com/example/eurybates/eurybates/protocol/ApiKey"), (.object "com/example/eurybates/eurybates/protocol/ApiKey"), (.object "com/example/eurybates/eurybates/protocol/ApiKey"), (.object "com/example/eurybates/eurybates/protocol/ApiKey"), (.object "com/example/eurybates/eurybates/protocol/ApiKey"), (.object "com/example/eurybates/eurybates/protocol/ApiKey"), (.object "com/example/eurybates/eurybates/protocol/ApiKey"), (.object "com/example/eurybates/eurybates/protocol/ApiKey"), (.object "com/example/eurybates/eurybates/protocol/ApiKey"), (.array (.object "com/example/eurybates/eurybates/protocol/ApiKey"))]
  resolved := Array.replicate 183 none
  statics := some 0 }

def pool7 : Array CpInfo := pool [(1, u "java/lang/Cloneable"), (0, .class_ 1), (0, u "java/lang/Object"), (0, .class_ 3)] 3

/-- java/lang/Cloneable -/
def k7 : Class := { plain "java/lang/Cloneable" (some 0) with
  accessFlags := 1537
  interfaces := #[]
  cf := some (fileOf pool7 2 #[] #[] 1537 4 #[] #[])
  fields := #[]
  methods := #[]
  instanceTypes := #[]
  staticTypes := #[]
  resolved := Array.replicate 8 none
  statics := none }

/-- the primitive byte -/
def k8 : Class := { plain "byte" none with kind := .primitive 'B', accessFlags := 0x411 }
/-- [B -/
def k9 : Class := { plain "[B" (some 0) with kind := .array 8 .byte, interfaces := #[7, 4], accessFlags := 1041 }

/-- the primitive int -/
def k10 : Class := { plain "int" none with kind := .primitive 'I', accessFlags := 0x411 }
/-- [I -/
def k11 : Class := { plain "[I" (some 0) with kind := .array 10 .int, interfaces := #[7, 4], accessFlags := 1041 }

def heap : Heap := #[{ cls := 6, slots := #[.ref 1, .ref 2, .ref 3, .ref 4, .ref 5, .ref 6, .ref 7, .ref 8, .ref 9, .ref 10, .ref 11, .ref 12, .ref 13, .ref 14, .ref 15, .ref 16, .ref 17, .ref 18, .null], vm := .statics 6 },
  { cls := 6, slots := #[.null, .int 0, .int 0, .int 0, .int 3, .int 7, .int 0], vm := .none },
  { cls := 6, slots := #[.null, .int 1, .int 0, .int 0, .int 4, .int 11, .int 0], vm := .none },
  { cls := 6, slots := #[.null, .int 2, .int 0, .int 0, .int 1, .int 2, .int 0], vm := .none },
  { cls := 6, slots := #[.null, .int 3, .int 0, .int 0, .int 0, .int 4, .int 0], vm := .none },
  { cls := 6, slots := #[.null, .int 4, .int 0, .int 0, .int 2, .int 2, .int 0], vm := .none },
  { cls := 6, slots := #[.null, .int 5, .int 0, .int 0, .int 1, .int 5, .int 0], vm := .none },
  { cls := 6, slots := #[.null, .int 6, .int 0, .int 0, .int 0, .int 0, .int 0], vm := .none },
  { cls := 6, slots := #[.null, .int 7, .int 0, .int 0, .int 2, .int 2, .int 0], vm := .none },
  { cls := 6, slots := #[.null, .int 8, .int 0, .int 0, .int 1, .int 1, .int 0], vm := .none },
  { cls := 6, slots := #[.null, .int 9, .int 0, .int 0, .int 1, .int 1, .int 0], vm := .none },
  { cls := 6, slots := #[.null, .int 10, .int 0, .int 0, .int 1, .int 1, .int 0], vm := .none },
  { cls := 6, slots := #[.null, .int 11, .int 0, .int 0, .int 0, .int 4, .int 0], vm := .none },
  { cls := 6, slots := #[.null, .int 12, .int 0, .int 0, .int 0, .int 2, .int 0], vm := .none },
  { cls := 6, slots := #[.null, .int 13, .int 0, .int 0, .int 0, .int 3, .int 0], vm := .none },
  { cls := 6, slots := #[.null, .int 14, .int 0, .int 0, .int 0, .int 4, .int 0], vm := .none },
  { cls := 6, slots := #[.null, .int 15, .int 0, .int 0, .int 0, .int 3, .int 0], vm := .none },
  { cls := 6, slots := #[.null, .int 16, .int 0, .int 0, .int 0, .int 1, .int 0], vm := .none },
  { cls := 6, slots := #[.null, .int 17, .int 0, .int 0, .int 0, .int 1, .int 0], vm := .none }]
def classes : Array Class := #[k0, k1, k2, k3, k4, k5, k6, k7, k8, k9, k10, k11]
def interned : List (Array UInt16 × Addr) := []
def slotsUsed : Nat := 145
def theMethod : MethodId := ⟨1, 2⟩
def args0 : Array Value := #[.int 5, .int 3]
def aboutOver (below : List Frame) : State where
  vm := { classes := classes, interned := interned.toArray }
  heap := heap
  slotsUsed := slotsUsed
  threads := #[{ frames := .invoking theMethod args0 :: below }]
def below0 : List Frame := [.native { method := ⟨0, 0⟩, args := #[] }]
def about1 : State := aboutOver below0
def p0 : Program := .bare "" "" ""
def e0 : Env := launch0.env 0 0 0
theorem w_frames : about1.frames = Frame.invoking theMethod args0 :: below0 := rfl
set_option maxRecDepth 65536 in
theorem w_args : argsFit about1.vm theMethod args0 = true := by decide +kernel
set_option maxRecDepth 65536 in
theorem w_heap : heapFits about1 = true := by decide +kernel
set_option maxRecDepth 65536 in
theorem w_runnable : about1.curStatus? = some .runnable := by decide +kernel
set_option maxRecDepth 65536 in
theorem w_alone : about1.alone = true := by decide +kernel
set_option maxRecDepth 65536 in
theorem w_named : about1.methodNamed? x = some theMethod := by decide +kernel
set_option maxRecDepth 65536 in
theorem w_hears : about1.hears theMethod below0 = true := by decide +kernel
set_option maxRecDepth 65536 in
theorem w_ripe : about1.ripe theMethod args0 below0 = true := by decide +kernel
theorem w_running : about1.status = .running := rfl
set_option maxRecDepth 65536 in
theorem w_room : about1.hasRoom e0.platform room_1 = true :=
  launch0.hasRoom_least _ room_1 (by decide +kernel) (by decide +kernel) (by decide +kernel) (by decide +kernel) (by decide +kernel) (by decide +kernel)
theorem allAtoms_all (ts : List Jvm.Cond) (a : Array Jvm.Value) (st : Jvm.State) : (allAtoms ts).before a st = ts.all (fun c => c.before a st) := by
  induction ts with
  | nil => rfl
  | cons c t ih =>
    show (Jvm.Cond.and c (allAtoms t)).before a st = _
    rw [Jvm.Cond.before_and, ih, List.all_cons]
def words1 : List Jvm.Cond := Jvm.Cond.code x code maxLocals ret :: tables_1
/-- a 'code' word, met by the world's own term for the bytes: nothing is compared byte by byte -/
theorem code_word {y : MethodName} {bytes : ByteArray} {mx : Nat} {rt : Option FieldType} {a : Array Value} {s : State} {m : MethodId} {meth : Method} {c : Code} (h1 : s.methodNamed? y = some m) (h2 : s.vm.method? m = some meth) (h3 : meth.code = some c) (h4 : c.code = bytes)
    (h5 : (c.maxLocals == mx && c.exceptionTable.isEmpty && decide (c.maxStack ≤ mostOperands) && decide (meth.sig.returnType = rt) && !meth.locks && decide (parseMethodDescriptor y.desc = some meth.sig)) = true) : (Jvm.Cond.code y bytes mx rt).before a s = true := by
  simp only [Bool.and_eq_true, beq_iff_eq, Bool.not_eq_true', decide_eq_true_eq] at h5
  obtain ⟨⟨⟨⟨⟨g1, g2⟩, g3⟩, g4⟩, g5⟩, g6⟩ := h5
  simp [Cond.before, Cond.holds, Cond.value, h1, h2, h3, h4, g1, g2, g3, g4, g5, g6]
def isCode : Jvm.Cond → Bool
  | .code _ _ _ _ => true
  | _ => false
theorem all_split {L : List Jvm.Cond} {P : Jvm.Cond → Bool} (h1 : L.all (fun c => isCode c || P c) = true) (h2 : ∀ c ∈ L.filter isCode, P c = true) : L.all P = true := by
  refine List.all_eq_true.mpr fun c hc => ?_
  have h := List.all_eq_true.mp h1 c hc
  rcases Bool.eq_false_or_eq_true (isCode c) with hi | hi
  · exact h2 c (List.mem_filter.mpr ⟨hc, hi⟩)
  · simpa [hi] using h
set_option maxRecDepth 65536 in
theorem w_c0 : (Jvm.Cond.code x code maxLocals ret).before args0 about1 = true := code_word (m := ⟨1, 2⟩) (meth := k1m2) (c := k1c2) (by decide +kernel) rfl rfl rfl (by decide +kernel)
set_option maxRecDepth 65536 in
theorem w_c1 : (Jvm.Cond.code ({ cls := "com/example/eurybates/eurybates/protocol/ApiKeyImplementsVersionPinLaw", name := "pick", desc := "(I)Lcom/example/eurybates/eurybates/protocol/ApiKey;" } : Jvm.MethodName) method_2_code (1 : Nat) (Option.some (Jvm.ClassFile.FieldType.object "com/example/eurybates/eurybates/protocol/ApiKey"))).before args0 about1 = true := code_word (m := ⟨1, 1⟩) (meth := k1m1) (c := k1c1) (by decide +kernel) rfl rfl rfl (by decide +kernel)
set_option maxRecDepth 65536 in
theorem w_c2 : (Jvm.Cond.code ({ cls := "com/example/eurybates/eurybates/protocol/ApiKey", name := "implementsVersion", desc := "(S)Z" } : Jvm.MethodName) prog_35_method_8_code (2 : Nat) (Option.some Jvm.ClassFile.FieldType.boolean)).before args0 about1 = true := code_word (m := ⟨6, 0⟩) (meth := k6m0) (c := k6c0) (by decide +kernel) rfl rfl rfl (by decide +kernel)
def codes1 : List Jvm.Cond := [Jvm.Cond.code x code maxLocals ret, Jvm.Cond.code ({ cls := "com/example/eurybates/eurybates/protocol/ApiKeyImplementsVersionPinLaw", name := "pick", desc := "(I)Lcom/example/eurybates/eurybates/protocol/ApiKey;" } : Jvm.MethodName) method_2_code (1 : Nat) (Option.some (Jvm.ClassFile.FieldType.object "com/example/eurybates/eurybates/protocol/ApiKey")), Jvm.Cond.code ({ cls := "com/example/eurybates/eurybates/protocol/ApiKey", name := "implementsVersion", desc := "(S)Z" } : Jvm.MethodName) prog_35_method_8_code (2 : Nat) (Option.some Jvm.ClassFile.FieldType.boolean)]
set_option maxRecDepth 65536 in
theorem codes_eq : words1.filter isCode = codes1 := rfl
theorem w_codes : ∀ c ∈ words1.filter isCode, c.before args0 about1 = true := by
  rw [codes_eq]
  intro c hc
  simp only [codes1, List.mem_cons, List.not_mem_nil, or_false] at hc
  rcases hc with rfl | rfl | rfl
  · exact w_c0
  · exact w_c1
  · exact w_c2
set_option maxRecDepth 65536 in
theorem w_t1 : (words1.take 24).all (fun c => isCode c || c.before args0 about1) = true := by decide +kernel
set_option maxRecDepth 65536 in
theorem w_t2 : ((words1.drop 24).take 24).all (fun c => isCode c || c.before args0 about1) = true := by decide +kernel
set_option maxRecDepth 65536 in
theorem w_t3 : ((words1.drop 24).drop 24).all (fun c => isCode c || c.before args0 about1) = true := by decide +kernel
theorem w_tables : (allAtoms (Jvm.Cond.code x code maxLocals ret :: tables_1)).before args0 about1 = true := by
  rw [allAtoms_all]
  show words1.all (fun c => c.before args0 about1) = true
  refine all_split ?_ w_codes
  rw [← List.take_append_drop 24 words1, List.all_append, w_t1, ← List.take_append_drop 24 (words1.drop 24), List.all_append, w_t2, w_t3]
  rfl
set_option maxRecDepth 65536 in
theorem w_case : (Jvm.Cond.and given_1 narrow_1).before args0 about1 = true := by decide +kernel
theorem w_applies : (headSpec (Jvm.Cond.code x code maxLocals ret :: tables_1) room_1).applies x e0.platform about1 = true :=
  (Spec.applies_iff w_frames).mpr ⟨w_running, w_runnable, w_alone, w_named, w_hears, w_ripe, w_room, w_tables⟩
theorem atStart : AtStart classFile x code maxLocals ret World_1 tables_1 room_1 Calls_1 rest_1 Pre_1 launch0 p0 e0 about1 theMethod args0 below0 :=
  ⟨lists_1, trivial, launch0.admits_env _ _ _, launch0.least_env, fairChoices_fair.cas, fairChoices_fair.clock, w_frames, w_args, w_heap, w_applies, trivial, trivial, w_case⟩
end start1
theorem witness_1 : WitnessClaimed_1 := ⟨start1.p0, start1.e0, start1.about1, start1.theMethod, start1.args0, start1.below0, start1.atStart⟩
end Jvm.Pilot.@@N@@
