import JvmDerived
import JvmDerived.Pilot.@@N@@Statement
import JvmDerived.Pilot.@@N@@Code
set_option linter.unusedVariables false
set_option linter.unusedSimpArgs false
namespace Jvm.Pilot.@@N@@
open Jvm Jvm.ClassFile Sem Op Lib Jvm.Free Jvm.Stand Jvm.LawKit Jvm.RoadKit Bundle Jvm.Pilot.@@N@@.Jvm.D
theorem own_w (i : Nat) {d : Jvm.Cond} (h : tables_1[i]? = some d) : d ∈ tables_1 := List.mem_of_getElem? h
def own_Go (p : Program) (e : Env) (below : List Frame) (A B : State) : Prop := ∀ t, Steps p.tables e below B t → Steps p.tables e below A t
section OwnKit
variable {p : Program} {l : Launch} {e : Env} {R : Room} {s : State} {m : MethodId} {args : Array Value} {below : List Frame} {meth : Method} {c : Code} {T : State} {locs : List Loc} {cells slots : Nat}
theorem retI (X : Stand p l e R s m args below meth c T locs cells slots) (hx : p.tables.exec = Jvm.exec) {pc : Nat} {Ls : Array Slot} {z : Int32} {rest : List Value} (hret : meth.sig.returnType = some .int) (hd : decode c.code pc = .ok (.ireturn, 1)) {fs : List Frame}
    (hl : ∀ (f : JFrame) (acts : List Action), f.method = m → f.locked = none → f.entered = [] → (doReturn e (T.setTop f) acts (some (.int z))).1 = T.setFrames fs) : Steps p.tables e below (T.setTop (mkF m pc Ls (.int z :: rest))) (T.setFrames fs) :=
  retOut X hx hret rfl (Or.inl ⟨rfl, Or.inl rfl, z, rfl⟩) hd hl
theorem own_retR (X : Stand p l e R s m args below meth c T locs cells slots) (hx : p.tables.exec = Jvm.exec) {pc : Nat} {Ls : Array Slot} {w : Value} {t : FieldType} {rest : List Value} (hret : meth.sig.returnType = some t) (ht : t.isReference = true) (hw : w.isRef = true) (hd : decode c.code pc = .ok (.areturn, 1)) {fs : List Frame}
    (hl : ∀ (f : JFrame) (acts : List Action), f.method = m → f.locked = none → f.entered = [] → (doReturn e (T.setTop f) acts (some w)).1 = T.setFrames fs) : Steps p.tables e below (T.setTop (mkF m pc Ls (w :: rest))) (T.setFrames fs) :=
  retOut X hx hret (by cases t <;> cases w <;> simp_all [FieldType.isReference, Value.isRef, narrow]) (Or.inr (Or.inr (Or.inr (Or.inr ⟨rfl, ht, hw⟩)))) hd hl
end OwnKit

theorem d1_0 : decode method_3_code 0 = .ok (.iload_n 0, 1) := by decide +kernel
theorem d1_1 : decode method_3_code 1 = .ok (.ifCond .ne 5, 3) := by decide +kernel
theorem d1_4 : decode method_3_code 4 = .ok (.iconst 0, 1) := by decide +kernel
theorem d1_5 : decode method_3_code 5 = .ok (.ireturn, 1) := by decide +kernel
theorem d1_6 : decode method_3_code 6 = .ok (.iload_n 0, 1) := by decide +kernel
theorem d1_7 : decode method_3_code 7 = .ok (.iconst 1, 1) := by decide +kernel
theorem d1_8 : decode method_3_code 8 = .ok (.if_icmp .ne 6, 3) := by decide +kernel
theorem d1_11 : decode method_3_code 11 = .ok (.bipush 32, 2) := by decide +kernel
theorem d1_13 : decode method_3_code 13 = .ok (.ireturn, 1) := by decide +kernel
theorem d1_14 : decode method_3_code 14 = .ok (.iload_n 0, 1) := by decide +kernel
theorem d1_15 : decode method_3_code 15 = .ok (.iconst 2, 1) := by decide +kernel
theorem d1_16 : decode method_3_code 16 = .ok (.if_icmp .ne 6, 3) := by decide +kernel
theorem d1_19 : decode method_3_code 19 = .ok (.bipush 127, 2) := by decide +kernel
theorem d1_21 : decode method_3_code 21 = .ok (.ireturn, 1) := by decide +kernel
theorem d1_22 : decode method_3_code 22 = .ok (.iload_n 0, 1) := by decide +kernel
theorem d1_23 : decode method_3_code 23 = .ok (.iconst 3, 1) := by decide +kernel
theorem d1_24 : decode method_3_code 24 = .ok (.if_icmp .ne 7, 3) := by decide +kernel
theorem d1_27 : decode method_3_code 27 = .ok (.sipush 160, 3) := by decide +kernel
theorem d1_30 : decode method_3_code 30 = .ok (.ireturn, 1) := by decide +kernel
theorem d1_31 : decode method_3_code 31 = .ok (.iload_n 0, 1) := by decide +kernel
theorem d1_32 : decode method_3_code 32 = .ok (.iconst 4, 1) := by decide +kernel
theorem d1_33 : decode method_3_code 33 = .ok (.if_icmp .ne 7, 3) := by decide +kernel
theorem d1_36 : decode method_3_code 36 = .ok (.sipush 8232, 3) := by decide +kernel
theorem d1_39 : decode method_3_code 39 = .ok (.ireturn, 1) := by decide +kernel
theorem d1_40 : decode method_3_code 40 = .ok (.iload_n 0, 1) := by decide +kernel
theorem d1_41 : decode method_3_code 41 = .ok (.iconst 5, 1) := by decide +kernel
theorem d1_42 : decode method_3_code 42 = .ok (.if_icmp .ne 7, 3) := by decide +kernel
theorem d1_45 : decode method_3_code 45 = .ok (.sipush 8234, 3) := by decide +kernel
theorem d1_48 : decode method_3_code 48 = .ok (.ireturn, 1) := by decide +kernel
theorem d1_49 : decode method_3_code 49 = .ok (.iload_n 0, 1) := by decide +kernel
theorem d1_50 : decode method_3_code 50 = .ok (.bipush 6, 2) := by decide +kernel
theorem d1_52 : decode method_3_code 52 = .ok (.if_icmp .ne 6, 3) := by decide +kernel
theorem d1_55 : decode method_3_code 55 = .ok (.ldc 7, 2) := by decide +kernel
theorem d1_57 : decode method_3_code 57 = .ok (.ireturn, 1) := by decide +kernel
theorem d1_58 : decode method_3_code 58 = .ok (.sipush 133, 3) := by decide +kernel
theorem d1_61 : decode method_3_code 61 = .ok (.ireturn, 1) := by decide +kernel
theorem pn_1 : plainName "com/example/permgrid/permgrid/ControlCharactersIsPinLaw" = true := by first | (simp [plainName, overriddenIn]; done) | decide +kernel
theorem ef_1 (m : MethodId) (x0 : Int32) : entryFrame m #[(.int x0)] 1 = mkF m 0 #[.val (.int x0)] [] := by first | (simp [entryFrame, mkF, argsToLocals, Value.category]; done) | rfl
def own_base (p1 : Int32) : Int32 := (if p1 = (0 : Int32) then (0 : Int32) else (if p1 = (1 : Int32) then (32 : Int32) else (if p1 = (2 : Int32) then (127 : Int32) else (if p1 = (3 : Int32) then (160 : Int32) else (if p1 = (4 : Int32) then (8232 : Int32) else (if p1 = (5 : Int32) then (8234 : Int32) else (if p1 = (6 : Int32) then (65535 : Int32) else (133 : Int32))))))))
def Q1 (Z : State) (p1 : Int32) (h0 : Heap) (n0 : Nat) (v : Option Value) (h : Heap) (L : List Loc) : Prop := v = (some (.int (own_base p1))) ∧ Fr n0 L ∧ h = h0
set_option maxRecDepth 65536 in
set_option maxHeartbeats 40000000 in
theorem rm1 (l : Launch) (Z : State) (a0 : Array Value) (hw : ∀ d ∈ tables_1, d.before a0 Z = true) (ws : List Jvm.Cond) (p1 : Int32) (h0 : Heap) (n0 : Nat) (Z0 : n0 ≤ h0.size) :
    MetFree l (⟨"com/example/permgrid/permgrid/ControlCharactersIsPinLaw", "base", "(I)I"⟩ : MethodName) (head1 (Jvm.Cond.code (⟨"com/example/permgrid/permgrid/ControlCharactersIsPinLaw", "base", "(I)I"⟩ : MethodName) method_3_code 1 (some .int) :: ws) ({ frames := 0, cells := 0, slots := 0, locals := 0 } : Room)) (fun a U => a = #[(.int p1)] ∧ Z.Warmed39 U.vm ∧ U.heap = h0) (fun _ _ _ _ _ => True) (fun _ U o U' => ∃ v L, o = .returned v ∧ Q1 Z p1 h0 n0 v U'.heap L ∧ FrameEnd U o U' L ({ frames := 0, cells := 0, slots := 0, locals := 0 } : Room).cells ({ frames := 0, cells := 0, slots := 0, locals := 0 } : Room).slots) := by
  refine MetFree.of_bodySF (plainFor_of_name pn_1) hisR ?_
  intro p e s m args below meth c s₁ Bd hml0 hP hK
  obtain ⟨rfl, hZ, hh⟩ := hP
  have hx := Bd.exec
  have hby := Bd.bytes
  have hml : c.maxLocals = 1 := hml0
  have hown : s.vm.findClass "com/example/permgrid/permgrid/ControlCharactersIsPinLaw" = some m.cls := findClass_of_methodNamed Bd.named
  have hnm := (name_of_methodNamed Bd.named Bd.method).1
  have X0 : Stand p l e ({ frames := 0, cells := 0, slots := 0, locals := 0 } : Room) s m #[(.int p1)] below meth c s₁ [] 0 0 := Stand.of_body Bd
  have e0 : s₁.heap = h0 := by rw [← hh, Bd.state]; rfl
  have N0 := Fr.nil n0
  obtain ⟨S0, hS0⟩ : ∃ z, z = s₁.setTop (entryFrame m #[(.int p1)] 1) := ⟨_, rfl⟩
  have pre0 : own_Go p e below S0 (s₁.setTop (mkF m 0 #[.val (.int p1)] [])) := fun t k => by rw [hS0]; exact castTop (ef_1 m p1) k
  have fin : ∀ t, Steps p.tables e below S0 t → Steps p.tables e below (s₁.setTop (entryFrame m #[(.int p1)] 1)) t := fun t k => by rw [hS0] at k; exact k
  have pre2 : own_Go p e below S0 (s₁.setTop (mkF m 1 #[.val (.int p1)] [(.int p1)])) := by
    intro t kt
    refine pre0 t ?_
    refine XS.iloadN X0.here hx rfl (hb hby d1_0) rfl ?_
    show Steps p.tables e below (s₁.setTop (mkF m 1 #[.val (.int p1)] [(.int p1)])) _
    exact kt
  by_cases hc1 : p1 = (0 : Int32)
  · have pre3 : own_Go p e below S0 (s₁.setTop (mkF m 5 #[.val (.int p1)] [(.int (0 : Int32))])) := by
      intro t kt
      refine pre2 t ?_
      refine XS.ifNo X0.here hx rfl (hb hby d1_1) rfl ((if0 _ _).trans (teq hc1).2) ?_
      show Steps p.tables e below (s₁.setTop (mkF m 4 #[.val (.int p1)] [])) _
      refine XS.iconst X0.here hx rfl (hb hby d1_4) ?_
      show Steps p.tables e below (s₁.setTop (mkF m 5 #[.val (.int p1)] [(.int (0 : Int32))])) _
      exact kt
    obtain ⟨fs, hr, hrun, hended, hW, hsame⟩ := X0.leave (v := some (.int (0 : Int32))) (fun h => by rw [Bd.returns] at h; cases h)
    refine ⟨_, _, fin _ (pre3 _ ?_), hrun, hended, _, _, rfl, ?_, ⟨_, rfl⟩, hW, hsame.mono (by decide) (by decide)⟩
    · exact retI X0 hx Bd.returns (hb hby d1_5) hr
    · show Q1 Z p1 h0 n0 _ s₁.heap _
      rw [e0]
      exact ⟨(by show some _ = some _; rw [own_base, if_pos hc1]), N0, rfl⟩
  · have pre5 : own_Go p e below S0 (s₁.setTop (mkF m 8 #[.val (.int p1)] [(.int (1 : Int32)), (.int p1)])) := by
      intro t kt
      refine pre2 t ?_
      refine XS.ifYes X0.here hx rfl (pc0 := 1) (pc' := 6) rfl (hb hby d1_1) rfl ((if0 _ _).trans (feq hc1).2) (by decide) (by decide) ?_
      show Steps p.tables e below (s₁.setTop (mkF m 6 #[.val (.int p1)] [])) _
      refine XS.iloadN X0.here hx rfl (hb hby d1_6) rfl ?_
      show Steps p.tables e below (s₁.setTop (mkF m 7 #[.val (.int p1)] [(.int p1)])) _
      refine XS.iconst X0.here hx rfl (hb hby d1_7) ?_
      show Steps p.tables e below (s₁.setTop (mkF m 8 #[.val (.int p1)] [(.int (1 : Int32)), (.int p1)])) _
      exact kt
    by_cases hc4 : p1 = (1 : Int32)
    · have pre6 : own_Go p e below S0 (s₁.setTop (mkF m 13 #[.val (.int p1)] [(.int (32 : Int32))])) := by
        intro t kt
        refine pre5 t ?_
        refine XS.icmpNo X0.here hx rfl (hb hby d1_8) rfl (teq hc4).2 ?_
        show Steps p.tables e below (s₁.setTop (mkF m 11 #[.val (.int p1)] [])) _
        refine XS.bipush X0.here hx rfl (hb hby d1_11) ?_
        show Steps p.tables e below (s₁.setTop (mkF m 13 #[.val (.int p1)] [(.int (32 : Int32))])) _
        exact kt
      obtain ⟨fs, hr, hrun, hended, hW, hsame⟩ := X0.leave (v := some (.int (32 : Int32))) (fun h => by rw [Bd.returns] at h; cases h)
      refine ⟨_, _, fin _ (pre6 _ ?_), hrun, hended, _, _, rfl, ?_, ⟨_, rfl⟩, hW, hsame.mono (by decide) (by decide)⟩
      · exact retI X0 hx Bd.returns (hb hby d1_13) hr
      · show Q1 Z p1 h0 n0 _ s₁.heap _
        rw [e0]
        exact ⟨(by show some _ = some _; rw [own_base, if_neg hc1, if_pos hc4]), N0, rfl⟩
    · have pre8 : own_Go p e below S0 (s₁.setTop (mkF m 16 #[.val (.int p1)] [(.int (2 : Int32)), (.int p1)])) := by
        intro t kt
        refine pre5 t ?_
        refine XS.icmpYes X0.here hx rfl (pc0 := 8) (pc' := 14) rfl (hb hby d1_8) rfl (feq hc4).2 (by decide) (by decide) ?_
        show Steps p.tables e below (s₁.setTop (mkF m 14 #[.val (.int p1)] [])) _
        refine XS.iloadN X0.here hx rfl (hb hby d1_14) rfl ?_
        show Steps p.tables e below (s₁.setTop (mkF m 15 #[.val (.int p1)] [(.int p1)])) _
        refine XS.iconst X0.here hx rfl (hb hby d1_15) ?_
        show Steps p.tables e below (s₁.setTop (mkF m 16 #[.val (.int p1)] [(.int (2 : Int32)), (.int p1)])) _
        exact kt
      by_cases hc7 : p1 = (2 : Int32)
      · have pre9 : own_Go p e below S0 (s₁.setTop (mkF m 21 #[.val (.int p1)] [(.int (127 : Int32))])) := by
          intro t kt
          refine pre8 t ?_
          refine XS.icmpNo X0.here hx rfl (hb hby d1_16) rfl (teq hc7).2 ?_
          show Steps p.tables e below (s₁.setTop (mkF m 19 #[.val (.int p1)] [])) _
          refine XS.bipush X0.here hx rfl (hb hby d1_19) ?_
          show Steps p.tables e below (s₁.setTop (mkF m 21 #[.val (.int p1)] [(.int (127 : Int32))])) _
          exact kt
        obtain ⟨fs, hr, hrun, hended, hW, hsame⟩ := X0.leave (v := some (.int (127 : Int32))) (fun h => by rw [Bd.returns] at h; cases h)
        refine ⟨_, _, fin _ (pre9 _ ?_), hrun, hended, _, _, rfl, ?_, ⟨_, rfl⟩, hW, hsame.mono (by decide) (by decide)⟩
        · exact retI X0 hx Bd.returns (hb hby d1_21) hr
        · show Q1 Z p1 h0 n0 _ s₁.heap _
          rw [e0]
          exact ⟨(by show some _ = some _; rw [own_base, if_neg hc1, if_neg hc4, if_pos hc7]), N0, rfl⟩
      · have pre11 : own_Go p e below S0 (s₁.setTop (mkF m 24 #[.val (.int p1)] [(.int (3 : Int32)), (.int p1)])) := by
          intro t kt
          refine pre8 t ?_
          refine XS.icmpYes X0.here hx rfl (pc0 := 16) (pc' := 22) rfl (hb hby d1_16) rfl (feq hc7).2 (by decide) (by decide) ?_
          show Steps p.tables e below (s₁.setTop (mkF m 22 #[.val (.int p1)] [])) _
          refine XS.iloadN X0.here hx rfl (hb hby d1_22) rfl ?_
          show Steps p.tables e below (s₁.setTop (mkF m 23 #[.val (.int p1)] [(.int p1)])) _
          refine XS.iconst X0.here hx rfl (hb hby d1_23) ?_
          show Steps p.tables e below (s₁.setTop (mkF m 24 #[.val (.int p1)] [(.int (3 : Int32)), (.int p1)])) _
          exact kt
        by_cases hc10 : p1 = (3 : Int32)
        · have pre12 : own_Go p e below S0 (s₁.setTop (mkF m 30 #[.val (.int p1)] [(.int (160 : Int32))])) := by
            intro t kt
            refine pre11 t ?_
            refine XS.icmpNo X0.here hx rfl (hb hby d1_24) rfl (teq hc10).2 ?_
            show Steps p.tables e below (s₁.setTop (mkF m 27 #[.val (.int p1)] [])) _
            refine XS.sipush X0.here hx rfl (hb hby d1_27) ?_
            show Steps p.tables e below (s₁.setTop (mkF m 30 #[.val (.int p1)] [(.int (160 : Int32))])) _
            exact kt
          obtain ⟨fs, hr, hrun, hended, hW, hsame⟩ := X0.leave (v := some (.int (160 : Int32))) (fun h => by rw [Bd.returns] at h; cases h)
          refine ⟨_, _, fin _ (pre12 _ ?_), hrun, hended, _, _, rfl, ?_, ⟨_, rfl⟩, hW, hsame.mono (by decide) (by decide)⟩
          · exact retI X0 hx Bd.returns (hb hby d1_30) hr
          · show Q1 Z p1 h0 n0 _ s₁.heap _
            rw [e0]
            exact ⟨(by show some _ = some _; rw [own_base, if_neg hc1, if_neg hc4, if_neg hc7, if_pos hc10]), N0, rfl⟩
        · have pre14 : own_Go p e below S0 (s₁.setTop (mkF m 33 #[.val (.int p1)] [(.int (4 : Int32)), (.int p1)])) := by
            intro t kt
            refine pre11 t ?_
            refine XS.icmpYes X0.here hx rfl (pc0 := 24) (pc' := 31) rfl (hb hby d1_24) rfl (feq hc10).2 (by decide) (by decide) ?_
            show Steps p.tables e below (s₁.setTop (mkF m 31 #[.val (.int p1)] [])) _
            refine XS.iloadN X0.here hx rfl (hb hby d1_31) rfl ?_
            show Steps p.tables e below (s₁.setTop (mkF m 32 #[.val (.int p1)] [(.int p1)])) _
            refine XS.iconst X0.here hx rfl (hb hby d1_32) ?_
            show Steps p.tables e below (s₁.setTop (mkF m 33 #[.val (.int p1)] [(.int (4 : Int32)), (.int p1)])) _
            exact kt
          by_cases hc13 : p1 = (4 : Int32)
          · have pre15 : own_Go p e below S0 (s₁.setTop (mkF m 39 #[.val (.int p1)] [(.int (8232 : Int32))])) := by
              intro t kt
              refine pre14 t ?_
              refine XS.icmpNo X0.here hx rfl (hb hby d1_33) rfl (teq hc13).2 ?_
              show Steps p.tables e below (s₁.setTop (mkF m 36 #[.val (.int p1)] [])) _
              refine XS.sipush X0.here hx rfl (hb hby d1_36) ?_
              show Steps p.tables e below (s₁.setTop (mkF m 39 #[.val (.int p1)] [(.int (8232 : Int32))])) _
              exact kt
            obtain ⟨fs, hr, hrun, hended, hW, hsame⟩ := X0.leave (v := some (.int (8232 : Int32))) (fun h => by rw [Bd.returns] at h; cases h)
            refine ⟨_, _, fin _ (pre15 _ ?_), hrun, hended, _, _, rfl, ?_, ⟨_, rfl⟩, hW, hsame.mono (by decide) (by decide)⟩
            · exact retI X0 hx Bd.returns (hb hby d1_39) hr
            · show Q1 Z p1 h0 n0 _ s₁.heap _
              rw [e0]
              exact ⟨(by show some _ = some _; rw [own_base, if_neg hc1, if_neg hc4, if_neg hc7, if_neg hc10, if_pos hc13]), N0, rfl⟩
          · have pre17 : own_Go p e below S0 (s₁.setTop (mkF m 42 #[.val (.int p1)] [(.int (5 : Int32)), (.int p1)])) := by
              intro t kt
              refine pre14 t ?_
              refine XS.icmpYes X0.here hx rfl (pc0 := 33) (pc' := 40) rfl (hb hby d1_33) rfl (feq hc13).2 (by decide) (by decide) ?_
              show Steps p.tables e below (s₁.setTop (mkF m 40 #[.val (.int p1)] [])) _
              refine XS.iloadN X0.here hx rfl (hb hby d1_40) rfl ?_
              show Steps p.tables e below (s₁.setTop (mkF m 41 #[.val (.int p1)] [(.int p1)])) _
              refine XS.iconst X0.here hx rfl (hb hby d1_41) ?_
              show Steps p.tables e below (s₁.setTop (mkF m 42 #[.val (.int p1)] [(.int (5 : Int32)), (.int p1)])) _
              exact kt
            by_cases hc16 : p1 = (5 : Int32)
            · have pre18 : own_Go p e below S0 (s₁.setTop (mkF m 48 #[.val (.int p1)] [(.int (8234 : Int32))])) := by
                intro t kt
                refine pre17 t ?_
                refine XS.icmpNo X0.here hx rfl (hb hby d1_42) rfl (teq hc16).2 ?_
                show Steps p.tables e below (s₁.setTop (mkF m 45 #[.val (.int p1)] [])) _
                refine XS.sipush X0.here hx rfl (hb hby d1_45) ?_
                show Steps p.tables e below (s₁.setTop (mkF m 48 #[.val (.int p1)] [(.int (8234 : Int32))])) _
                exact kt
              obtain ⟨fs, hr, hrun, hended, hW, hsame⟩ := X0.leave (v := some (.int (8234 : Int32))) (fun h => by rw [Bd.returns] at h; cases h)
              refine ⟨_, _, fin _ (pre18 _ ?_), hrun, hended, _, _, rfl, ?_, ⟨_, rfl⟩, hW, hsame.mono (by decide) (by decide)⟩
              · exact retI X0 hx Bd.returns (hb hby d1_48) hr
              · show Q1 Z p1 h0 n0 _ s₁.heap _
                rw [e0]
                exact ⟨(by show some _ = some _; rw [own_base, if_neg hc1, if_neg hc4, if_neg hc7, if_neg hc10, if_neg hc13, if_pos hc16]), N0, rfl⟩
            · have pre20 : own_Go p e below S0 (s₁.setTop (mkF m 52 #[.val (.int p1)] [(.int (6 : Int32)), (.int p1)])) := by
                intro t kt
                refine pre17 t ?_
                refine XS.icmpYes X0.here hx rfl (pc0 := 42) (pc' := 49) rfl (hb hby d1_42) rfl (feq hc16).2 (by decide) (by decide) ?_
                show Steps p.tables e below (s₁.setTop (mkF m 49 #[.val (.int p1)] [])) _
                refine XS.iloadN X0.here hx rfl (hb hby d1_49) rfl ?_
                show Steps p.tables e below (s₁.setTop (mkF m 50 #[.val (.int p1)] [(.int p1)])) _
                refine XS.bipush X0.here hx rfl (hb hby d1_50) ?_
                show Steps p.tables e below (s₁.setTop (mkF m 52 #[.val (.int p1)] [(.int (6 : Int32)), (.int p1)])) _
                exact kt
              by_cases hc19 : p1 = (6 : Int32)
              · have pre21 : own_Go p e below S0 (s₁.setTop (mkF m 57 #[.val (.int p1)] [(.int (65535 : Int32))])) := by
                  intro t kt
                  refine pre20 t ?_
                  refine XS.icmpNo X0.here hx rfl (hb hby d1_52) rfl (teq hc19).2 ?_
                  show Steps p.tables e below (s₁.setTop (mkF m 55 #[.val (.int p1)] [])) _
                  refine X0.ldcInt hx hown (mvT hZ (hw _ (own_w 11 rfl))) (g := (mkF m 55 #[.val (.int p1)] [])) rfl (hb hby d1_55) _ ?_
                  show Steps p.tables e below (s₁.setTop (mkF m 57 #[.val (.int p1)] [(.int (65535 : Int32))])) _
                  exact kt
                obtain ⟨fs, hr, hrun, hended, hW, hsame⟩ := X0.leave (v := some (.int (65535 : Int32))) (fun h => by rw [Bd.returns] at h; cases h)
                refine ⟨_, _, fin _ (pre21 _ ?_), hrun, hended, _, _, rfl, ?_, ⟨_, rfl⟩, hW, hsame.mono (by decide) (by decide)⟩
                · exact retI X0 hx Bd.returns (hb hby d1_57) hr
                · show Q1 Z p1 h0 n0 _ s₁.heap _
                  rw [e0]
                  exact ⟨(by show some _ = some _; rw [own_base, if_neg hc1, if_neg hc4, if_neg hc7, if_neg hc10, if_neg hc13, if_neg hc16, if_pos hc19]), N0, rfl⟩
              · have pre22 : own_Go p e below S0 (s₁.setTop (mkF m 61 #[.val (.int p1)] [(.int (133 : Int32))])) := by
                  intro t kt
                  refine pre20 t ?_
                  refine XS.icmpYes X0.here hx rfl (pc0 := 52) (pc' := 58) rfl (hb hby d1_52) rfl (feq hc19).2 (by decide) (by decide) ?_
                  show Steps p.tables e below (s₁.setTop (mkF m 58 #[.val (.int p1)] [])) _
                  refine XS.sipush X0.here hx rfl (hb hby d1_58) ?_
                  show Steps p.tables e below (s₁.setTop (mkF m 61 #[.val (.int p1)] [(.int (133 : Int32))])) _
                  exact kt
                obtain ⟨fs, hr, hrun, hended, hW, hsame⟩ := X0.leave (v := some (.int (133 : Int32))) (fun h => by rw [Bd.returns] at h; cases h)
                refine ⟨_, _, fin _ (pre22 _ ?_), hrun, hended, _, _, rfl, ?_, ⟨_, rfl⟩, hW, hsame.mono (by decide) (by decide)⟩
                · exact retI X0 hx Bd.returns (hb hby d1_61) hr
                · show Q1 Z p1 h0 n0 _ s₁.heap _
                  rw [e0]
                  exact ⟨(by show some _ = some _; rw [own_base, if_neg hc1, if_neg hc4, if_neg hc7, if_neg hc10, if_neg hc13, if_neg hc16, if_neg hc19]), N0, rfl⟩

theorem d2_0 : decode prog_13_method_2_code 0 = .ok (.iload_n 0, 1) := by decide +kernel
theorem d2_1 : decode prog_13_method_2_code 1 = .ok (.bipush 32, 2) := by decide +kernel
theorem d2_3 : decode prog_13_method_2_code 3 = .ok (.if_icmp .lt 30, 3) := by decide +kernel
theorem d2_6 : decode prog_13_method_2_code 6 = .ok (.iload_n 0, 1) := by decide +kernel
theorem d2_7 : decode prog_13_method_2_code 7 = .ok (.bipush 127, 2) := by decide +kernel
theorem d2_9 : decode prog_13_method_2_code 9 = .ok (.if_icmp .lt 28, 3) := by decide +kernel
theorem d2_12 : decode prog_13_method_2_code 12 = .ok (.iload_n 0, 1) := by decide +kernel
theorem d2_13 : decode prog_13_method_2_code 13 = .ok (.sipush 159, 3) := by decide +kernel
theorem d2_16 : decode prog_13_method_2_code 16 = .ok (.if_icmp .le 17, 3) := by decide +kernel
theorem d2_19 : decode prog_13_method_2_code 19 = .ok (.iload_n 0, 1) := by decide +kernel
theorem d2_20 : decode prog_13_method_2_code 20 = .ok (.sipush 8232, 3) := by decide +kernel
theorem d2_23 : decode prog_13_method_2_code 23 = .ok (.if_icmp .eq 10, 3) := by decide +kernel
theorem d2_26 : decode prog_13_method_2_code 26 = .ok (.iload_n 0, 1) := by decide +kernel
theorem d2_27 : decode prog_13_method_2_code 27 = .ok (.sipush 8233, 3) := by decide +kernel
theorem d2_30 : decode prog_13_method_2_code 30 = .ok (.if_icmp .ne 7, 3) := by decide +kernel
theorem d2_33 : decode prog_13_method_2_code 33 = .ok (.iconst 1, 1) := by decide +kernel
theorem d2_34 : decode prog_13_method_2_code 34 = .ok (.goto 4, 3) := by decide +kernel
theorem d2_37 : decode prog_13_method_2_code 37 = .ok (.iconst 0, 1) := by decide +kernel
theorem d2_38 : decode prog_13_method_2_code 38 = .ok (.ireturn, 1) := by decide +kernel
theorem pn_2 : plainName "com/example/permgrid/permgrid/ControlCharacters" = true := by first | (simp [plainName, overriddenIn]; done) | decide +kernel
theorem ef_2 (m : MethodId) (x0 : Int32) : entryFrame m #[(.int x0)] 1 = mkF m 0 #[.val (.int x0)] [] := by first | (simp [entryFrame, mkF, argsToLocals, Value.category]; done) | rfl
def own_is (p1 : Int32) : Int32 := (if p1 < (32 : Int32) then (1 : Int32) else (if p1 < (127 : Int32) then (0 : Int32) else (if (159 : Int32) < p1 then (if p1 = (8232 : Int32) then (1 : Int32) else (if p1 = (8233 : Int32) then (1 : Int32) else (0 : Int32))) else (1 : Int32))))
def Q2 (Z : State) (p1 : Int32) (h0 : Heap) (n0 : Nat) (v : Option Value) (h : Heap) (L : List Loc) : Prop := v = (some (.int (own_is p1))) ∧ Fr n0 L ∧ h = h0
set_option maxRecDepth 65536 in
set_option maxHeartbeats 40000000 in
theorem rm2 (l : Launch) (Z : State) (a0 : Array Value) (hw : ∀ d ∈ tables_1, d.before a0 Z = true) (ws : List Jvm.Cond) (p1 : Int32) (h0 : Heap) (n0 : Nat) (Z0 : n0 ≤ h0.size) :
    MetFree l (⟨"com/example/permgrid/permgrid/ControlCharacters", "is", "(C)Z"⟩ : MethodName) (head1 (Jvm.Cond.code (⟨"com/example/permgrid/permgrid/ControlCharacters", "is", "(C)Z"⟩ : MethodName) prog_13_method_2_code 1 (some .boolean) :: ws) ({ frames := 0, cells := 0, slots := 0, locals := 0 } : Room)) (fun a U => a = #[(.int p1)] ∧ Z.Warmed39 U.vm ∧ U.heap = h0) (fun _ _ _ _ _ => True) (fun _ U o U' => ∃ v L, o = .returned v ∧ Q2 Z p1 h0 n0 v U'.heap L ∧ FrameEnd U o U' L ({ frames := 0, cells := 0, slots := 0, locals := 0 } : Room).cells ({ frames := 0, cells := 0, slots := 0, locals := 0 } : Room).slots) := by
  refine MetFree.of_bodySF (plainFor_of_name pn_2) hisR ?_
  intro p e s m args below meth c s₁ Bd hml0 hP hK
  obtain ⟨rfl, hZ, hh⟩ := hP
  have hx := Bd.exec
  have hby := Bd.bytes
  have hml : c.maxLocals = 1 := hml0
  have hown : s.vm.findClass "com/example/permgrid/permgrid/ControlCharacters" = some m.cls := findClass_of_methodNamed Bd.named
  have hnm := (name_of_methodNamed Bd.named Bd.method).1
  have X0 : Stand p l e ({ frames := 0, cells := 0, slots := 0, locals := 0 } : Room) s m #[(.int p1)] below meth c s₁ [] 0 0 := Stand.of_body Bd
  have e0 : s₁.heap = h0 := by rw [← hh, Bd.state]; rfl
  have N0 := Fr.nil n0
  obtain ⟨S0, hS0⟩ : ∃ z, z = s₁.setTop (entryFrame m #[(.int p1)] 1) := ⟨_, rfl⟩
  have pre0 : own_Go p e below S0 (s₁.setTop (mkF m 0 #[.val (.int p1)] [])) := fun t k => by rw [hS0]; exact castTop (ef_2 m p1) k
  have fin : ∀ t, Steps p.tables e below S0 t → Steps p.tables e below (s₁.setTop (entryFrame m #[(.int p1)] 1)) t := fun t k => by rw [hS0] at k; exact k
  have pre2 : own_Go p e below S0 (s₁.setTop (mkF m 3 #[.val (.int p1)] [(.int (32 : Int32)), (.int p1)])) := by
    intro t kt
    refine pre0 t ?_
    refine XS.iloadN X0.here hx rfl (hb hby d2_0) rfl ?_
    show Steps p.tables e below (s₁.setTop (mkF m 1 #[.val (.int p1)] [(.int p1)])) _
    refine XS.bipush X0.here hx rfl (hb hby d2_1) ?_
    show Steps p.tables e below (s₁.setTop (mkF m 3 #[.val (.int p1)] [(.int (32 : Int32)), (.int p1)])) _
    exact kt
  by_cases hc1 : p1 < (32 : Int32)
  · have pre3 : own_Go p e below S0 (s₁.setTop (mkF m 38 #[.val (.int p1)] [(.int (1 : Int32))])) := by
      intro t kt
      refine pre2 t ?_
      refine XS.icmpYes X0.here hx rfl (pc0 := 3) (pc' := 33) rfl (hb hby d2_3) rfl (tlt hc1).1 (by decide) (by decide) ?_
      show Steps p.tables e below (s₁.setTop (mkF m 33 #[.val (.int p1)] [])) _
      refine XS.iconst X0.here hx rfl (hb hby d2_33) ?_
      show Steps p.tables e below (s₁.setTop (mkF m 34 #[.val (.int p1)] [(.int (1 : Int32))])) _
      refine XS.goto X0.here hx rfl (pc0 := 34) (pc' := 38) rfl (hb hby d2_34) (by decide) (by decide) ?_
      show Steps p.tables e below (s₁.setTop (mkF m 38 #[.val (.int p1)] [(.int (1 : Int32))])) _
      exact kt
    obtain ⟨fs, hr, hrun, hended, hW, hsame⟩ := X0.leave (v := some (.int (1 : Int32))) (fun h => by rw [Bd.returns] at h; cases h)
    refine ⟨_, _, fin _ (pre3 _ ?_), hrun, hended, _, _, rfl, ?_, ⟨_, rfl⟩, hW, hsame.mono (by decide) (by decide)⟩
    · exact retN X0 hx (t := .boolean) Bd.returns (by simp) (hb hby d2_38) hr
    · show Q2 Z p1 h0 n0 _ s₁.heap _
      rw [e0]
      exact ⟨(by show some _ = some _; rw [own_is, if_pos hc1]), N0, rfl⟩
  · have pre5 : own_Go p e below S0 (s₁.setTop (mkF m 9 #[.val (.int p1)] [(.int (127 : Int32)), (.int p1)])) := by
      intro t kt
      refine pre2 t ?_
      refine XS.icmpNo X0.here hx rfl (hb hby d2_3) rfl (flt hc1).1 ?_
      show Steps p.tables e below (s₁.setTop (mkF m 6 #[.val (.int p1)] [])) _
      refine XS.iloadN X0.here hx rfl (hb hby d2_6) rfl ?_
      show Steps p.tables e below (s₁.setTop (mkF m 7 #[.val (.int p1)] [(.int p1)])) _
      refine XS.bipush X0.here hx rfl (hb hby d2_7) ?_
      show Steps p.tables e below (s₁.setTop (mkF m 9 #[.val (.int p1)] [(.int (127 : Int32)), (.int p1)])) _
      exact kt
    by_cases hc4 : p1 < (127 : Int32)
    · have pre6 : own_Go p e below S0 (s₁.setTop (mkF m 38 #[.val (.int p1)] [(.int (0 : Int32))])) := by
        intro t kt
        refine pre5 t ?_
        refine XS.icmpYes X0.here hx rfl (pc0 := 9) (pc' := 37) rfl (hb hby d2_9) rfl (tlt hc4).1 (by decide) (by decide) ?_
        show Steps p.tables e below (s₁.setTop (mkF m 37 #[.val (.int p1)] [])) _
        refine XS.iconst X0.here hx rfl (hb hby d2_37) ?_
        show Steps p.tables e below (s₁.setTop (mkF m 38 #[.val (.int p1)] [(.int (0 : Int32))])) _
        exact kt
      obtain ⟨fs, hr, hrun, hended, hW, hsame⟩ := X0.leave (v := some (.int (0 : Int32))) (fun h => by rw [Bd.returns] at h; cases h)
      refine ⟨_, _, fin _ (pre6 _ ?_), hrun, hended, _, _, rfl, ?_, ⟨_, rfl⟩, hW, hsame.mono (by decide) (by decide)⟩
      · exact retN X0 hx (t := .boolean) Bd.returns (by simp) (hb hby d2_38) hr
      · show Q2 Z p1 h0 n0 _ s₁.heap _
        rw [e0]
        exact ⟨(by show some _ = some _; rw [own_is, if_neg hc1, if_pos hc4]), N0, rfl⟩
    · have pre8 : own_Go p e below S0 (s₁.setTop (mkF m 16 #[.val (.int p1)] [(.int (159 : Int32)), (.int p1)])) := by
        intro t kt
        refine pre5 t ?_
        refine XS.icmpNo X0.here hx rfl (hb hby d2_9) rfl (flt hc4).1 ?_
        show Steps p.tables e below (s₁.setTop (mkF m 12 #[.val (.int p1)] [])) _
        refine XS.iloadN X0.here hx rfl (hb hby d2_12) rfl ?_
        show Steps p.tables e below (s₁.setTop (mkF m 13 #[.val (.int p1)] [(.int p1)])) _
        refine XS.sipush X0.here hx rfl (hb hby d2_13) ?_
        show Steps p.tables e below (s₁.setTop (mkF m 16 #[.val (.int p1)] [(.int (159 : Int32)), (.int p1)])) _
        exact kt
      by_cases hc7 : (159 : Int32) < p1
      · have pre10 : own_Go p e below S0 (s₁.setTop (mkF m 23 #[.val (.int p1)] [(.int (8232 : Int32)), (.int p1)])) := by
          intro t kt
          refine pre8 t ?_
          refine XS.icmpNo X0.here hx rfl (hb hby d2_16) rfl (tlt hc7).2.2.2 ?_
          show Steps p.tables e below (s₁.setTop (mkF m 19 #[.val (.int p1)] [])) _
          refine XS.iloadN X0.here hx rfl (hb hby d2_19) rfl ?_
          show Steps p.tables e below (s₁.setTop (mkF m 20 #[.val (.int p1)] [(.int p1)])) _
          refine XS.sipush X0.here hx rfl (hb hby d2_20) ?_
          show Steps p.tables e below (s₁.setTop (mkF m 23 #[.val (.int p1)] [(.int (8232 : Int32)), (.int p1)])) _
          exact kt
        by_cases hc9 : p1 = (8232 : Int32)
        · have pre11 : own_Go p e below S0 (s₁.setTop (mkF m 38 #[.val (.int p1)] [(.int (1 : Int32))])) := by
            intro t kt
            refine pre10 t ?_
            refine XS.icmpYes X0.here hx rfl (pc0 := 23) (pc' := 33) rfl (hb hby d2_23) rfl (teq hc9).1 (by decide) (by decide) ?_
            show Steps p.tables e below (s₁.setTop (mkF m 33 #[.val (.int p1)] [])) _
            refine XS.iconst X0.here hx rfl (hb hby d2_33) ?_
            show Steps p.tables e below (s₁.setTop (mkF m 34 #[.val (.int p1)] [(.int (1 : Int32))])) _
            refine XS.goto X0.here hx rfl (pc0 := 34) (pc' := 38) rfl (hb hby d2_34) (by decide) (by decide) ?_
            show Steps p.tables e below (s₁.setTop (mkF m 38 #[.val (.int p1)] [(.int (1 : Int32))])) _
            exact kt
          obtain ⟨fs, hr, hrun, hended, hW, hsame⟩ := X0.leave (v := some (.int (1 : Int32))) (fun h => by rw [Bd.returns] at h; cases h)
          refine ⟨_, _, fin _ (pre11 _ ?_), hrun, hended, _, _, rfl, ?_, ⟨_, rfl⟩, hW, hsame.mono (by decide) (by decide)⟩
          · exact retN X0 hx (t := .boolean) Bd.returns (by simp) (hb hby d2_38) hr
          · show Q2 Z p1 h0 n0 _ s₁.heap _
            rw [e0]
            exact ⟨(by show some _ = some _; rw [own_is, if_neg hc1, if_neg hc4, if_pos hc7, if_pos hc9]), N0, rfl⟩
        · have pre13 : own_Go p e below S0 (s₁.setTop (mkF m 30 #[.val (.int p1)] [(.int (8233 : Int32)), (.int p1)])) := by
            intro t kt
            refine pre10 t ?_
            refine XS.icmpNo X0.here hx rfl (hb hby d2_23) rfl (feq hc9).1 ?_
            show Steps p.tables e below (s₁.setTop (mkF m 26 #[.val (.int p1)] [])) _
            refine XS.iloadN X0.here hx rfl (hb hby d2_26) rfl ?_
            show Steps p.tables e below (s₁.setTop (mkF m 27 #[.val (.int p1)] [(.int p1)])) _
            refine XS.sipush X0.here hx rfl (hb hby d2_27) ?_
            show Steps p.tables e below (s₁.setTop (mkF m 30 #[.val (.int p1)] [(.int (8233 : Int32)), (.int p1)])) _
            exact kt
          by_cases hc12 : p1 = (8233 : Int32)
          · have pre14 : own_Go p e below S0 (s₁.setTop (mkF m 38 #[.val (.int p1)] [(.int (1 : Int32))])) := by
              intro t kt
              refine pre13 t ?_
              refine XS.icmpNo X0.here hx rfl (hb hby d2_30) rfl (teq hc12).2 ?_
              show Steps p.tables e below (s₁.setTop (mkF m 33 #[.val (.int p1)] [])) _
              refine XS.iconst X0.here hx rfl (hb hby d2_33) ?_
              show Steps p.tables e below (s₁.setTop (mkF m 34 #[.val (.int p1)] [(.int (1 : Int32))])) _
              refine XS.goto X0.here hx rfl (pc0 := 34) (pc' := 38) rfl (hb hby d2_34) (by decide) (by decide) ?_
              show Steps p.tables e below (s₁.setTop (mkF m 38 #[.val (.int p1)] [(.int (1 : Int32))])) _
              exact kt
            obtain ⟨fs, hr, hrun, hended, hW, hsame⟩ := X0.leave (v := some (.int (1 : Int32))) (fun h => by rw [Bd.returns] at h; cases h)
            refine ⟨_, _, fin _ (pre14 _ ?_), hrun, hended, _, _, rfl, ?_, ⟨_, rfl⟩, hW, hsame.mono (by decide) (by decide)⟩
            · exact retN X0 hx (t := .boolean) Bd.returns (by simp) (hb hby d2_38) hr
            · show Q2 Z p1 h0 n0 _ s₁.heap _
              rw [e0]
              exact ⟨(by show some _ = some _; rw [own_is, if_neg hc1, if_neg hc4, if_pos hc7, if_neg hc9, if_pos hc12]), N0, rfl⟩
          · have pre15 : own_Go p e below S0 (s₁.setTop (mkF m 38 #[.val (.int p1)] [(.int (0 : Int32))])) := by
              intro t kt
              refine pre13 t ?_
              refine XS.icmpYes X0.here hx rfl (pc0 := 30) (pc' := 37) rfl (hb hby d2_30) rfl (feq hc12).2 (by decide) (by decide) ?_
              show Steps p.tables e below (s₁.setTop (mkF m 37 #[.val (.int p1)] [])) _
              refine XS.iconst X0.here hx rfl (hb hby d2_37) ?_
              show Steps p.tables e below (s₁.setTop (mkF m 38 #[.val (.int p1)] [(.int (0 : Int32))])) _
              exact kt
            obtain ⟨fs, hr, hrun, hended, hW, hsame⟩ := X0.leave (v := some (.int (0 : Int32))) (fun h => by rw [Bd.returns] at h; cases h)
            refine ⟨_, _, fin _ (pre15 _ ?_), hrun, hended, _, _, rfl, ?_, ⟨_, rfl⟩, hW, hsame.mono (by decide) (by decide)⟩
            · exact retN X0 hx (t := .boolean) Bd.returns (by simp) (hb hby d2_38) hr
            · show Q2 Z p1 h0 n0 _ s₁.heap _
              rw [e0]
              exact ⟨(by show some _ = some _; rw [own_is, if_neg hc1, if_neg hc4, if_pos hc7, if_neg hc9, if_neg hc12]), N0, rfl⟩
      · have pre16 : own_Go p e below S0 (s₁.setTop (mkF m 38 #[.val (.int p1)] [(.int (1 : Int32))])) := by
          intro t kt
          refine pre8 t ?_
          refine XS.icmpYes X0.here hx rfl (pc0 := 16) (pc' := 33) rfl (hb hby d2_16) rfl (flt hc7).2.2.2 (by decide) (by decide) ?_
          show Steps p.tables e below (s₁.setTop (mkF m 33 #[.val (.int p1)] [])) _
          refine XS.iconst X0.here hx rfl (hb hby d2_33) ?_
          show Steps p.tables e below (s₁.setTop (mkF m 34 #[.val (.int p1)] [(.int (1 : Int32))])) _
          refine XS.goto X0.here hx rfl (pc0 := 34) (pc' := 38) rfl (hb hby d2_34) (by decide) (by decide) ?_
          show Steps p.tables e below (s₁.setTop (mkF m 38 #[.val (.int p1)] [(.int (1 : Int32))])) _
          exact kt
        obtain ⟨fs, hr, hrun, hended, hW, hsame⟩ := X0.leave (v := some (.int (1 : Int32))) (fun h => by rw [Bd.returns] at h; cases h)
        refine ⟨_, _, fin _ (pre16 _ ?_), hrun, hended, _, _, rfl, ?_, ⟨_, rfl⟩, hW, hsame.mono (by decide) (by decide)⟩
        · exact retN X0 hx (t := .boolean) Bd.returns (by simp) (hb hby d2_38) hr
        · show Q2 Z p1 h0 n0 _ s₁.heap _
          rw [e0]
          exact ⟨(by show some _ = some _; rw [own_is, if_neg hc1, if_neg hc4, if_neg hc7]), N0, rfl⟩

theorem d3_0 : decode method_2_code 0 = .ok (.iload_n 0, 1) := by decide +kernel
theorem d3_1 : decode method_2_code 1 = .ok (.istore_n 1, 1) := by decide +kernel
theorem d3_2 : decode method_2_code 2 = .ok (.iconst 0, 1) := by decide +kernel
theorem d3_3 : decode method_2_code 3 = .ok (.iload_n 1, 1) := by decide +kernel
theorem d3_4 : decode method_2_code 4 = .ok (.if_icmp .gt 13, 3) := by decide +kernel
theorem d3_7 : decode method_2_code 7 = .ok (.iload_n 1, 1) := by decide +kernel
theorem d3_8 : decode method_2_code 8 = .ok (.bipush 31, 2) := by decide +kernel
theorem d3_10 : decode method_2_code 10 = .ok (.if_icmp .gt 7, 3) := by decide +kernel
theorem d3_13 : decode method_2_code 13 = .ok (.iconst 1, 1) := by decide +kernel
theorem d3_14 : decode method_2_code 14 = .ok (.goto 4, 3) := by decide +kernel
theorem d3_17 : decode method_2_code 17 = .ok (.iconst 0, 1) := by decide +kernel
theorem d3_18 : decode method_2_code 18 = .ok (.istore_n 2, 1) := by decide +kernel
theorem d3_19 : decode method_2_code 19 = .ok (.bipush 127, 2) := by decide +kernel
theorem d3_21 : decode method_2_code 21 = .ok (.iload_n 1, 1) := by decide +kernel
theorem d3_22 : decode method_2_code 22 = .ok (.if_icmp .gt 14, 3) := by decide +kernel
theorem d3_25 : decode method_2_code 25 = .ok (.iload_n 1, 1) := by decide +kernel
theorem d3_26 : decode method_2_code 26 = .ok (.sipush 159, 3) := by decide +kernel
theorem d3_29 : decode method_2_code 29 = .ok (.if_icmp .gt 7, 3) := by decide +kernel
theorem d3_32 : decode method_2_code 32 = .ok (.iconst 1, 1) := by decide +kernel
theorem d3_33 : decode method_2_code 33 = .ok (.goto 4, 3) := by decide +kernel
theorem d3_36 : decode method_2_code 36 = .ok (.iconst 0, 1) := by decide +kernel
theorem d3_37 : decode method_2_code 37 = .ok (.istore_n 3, 1) := by decide +kernel
theorem d3_38 : decode method_2_code 38 = .ok (.iload_n 1, 1) := by decide +kernel
theorem d3_39 : decode method_2_code 39 = .ok (.sipush 8232, 3) := by decide +kernel
theorem d3_42 : decode method_2_code 42 = .ok (.if_icmp .ne 7, 3) := by decide +kernel
theorem d3_45 : decode method_2_code 45 = .ok (.iconst 1, 1) := by decide +kernel
theorem d3_46 : decode method_2_code 46 = .ok (.goto 4, 3) := by decide +kernel
theorem d3_49 : decode method_2_code 49 = .ok (.iconst 0, 1) := by decide +kernel
theorem d3_50 : decode method_2_code 50 = .ok (.istore 4, 2) := by decide +kernel
theorem d3_52 : decode method_2_code 52 = .ok (.iload_n 1, 1) := by decide +kernel
theorem d3_53 : decode method_2_code 53 = .ok (.sipush 8233, 3) := by decide +kernel
theorem d3_56 : decode method_2_code 56 = .ok (.if_icmp .ne 7, 3) := by decide +kernel
theorem d3_59 : decode method_2_code 59 = .ok (.iconst 1, 1) := by decide +kernel
theorem d3_60 : decode method_2_code 60 = .ok (.goto 4, 3) := by decide +kernel
theorem d3_63 : decode method_2_code 63 = .ok (.iconst 0, 1) := by decide +kernel
theorem d3_64 : decode method_2_code 64 = .ok (.istore 5, 2) := by decide +kernel
theorem d3_66 : decode method_2_code 66 = .ok (.iload_n 2, 1) := by decide +kernel
theorem d3_67 : decode method_2_code 67 = .ok (.ifCond .ne 17, 3) := by decide +kernel
theorem d3_70 : decode method_2_code 70 = .ok (.iload_n 3, 1) := by decide +kernel
theorem d3_71 : decode method_2_code 71 = .ok (.ifCond .ne 13, 3) := by decide +kernel
theorem d3_74 : decode method_2_code 74 = .ok (.iload 4, 2) := by decide +kernel
theorem d3_76 : decode method_2_code 76 = .ok (.ifCond .ne 8, 3) := by decide +kernel
theorem d3_79 : decode method_2_code 79 = .ok (.iload 5, 2) := by decide +kernel
theorem d3_81 : decode method_2_code 81 = .ok (.ifCond .eq 7, 3) := by decide +kernel
theorem d3_84 : decode method_2_code 84 = .ok (.iconst 1, 1) := by decide +kernel
theorem d3_85 : decode method_2_code 85 = .ok (.goto 4, 3) := by decide +kernel
theorem d3_88 : decode method_2_code 88 = .ok (.iconst 0, 1) := by decide +kernel
theorem d3_89 : decode method_2_code 89 = .ok (.ireturn, 1) := by decide +kernel
theorem pn_3 : plainName "com/example/permgrid/permgrid/ControlCharactersIsPinLaw" = true := by first | (simp [plainName, overriddenIn]; done) | decide +kernel
theorem ef_3 (m : MethodId) (x0 : Int32) : entryFrame m #[(.int x0)] 6 = mkF m 0 #[.val (.int x0), .unset, .unset, .unset, .unset, .unset] [] := by first | (simp [entryFrame, mkF, argsToLocals, Value.category]; done) | rfl
def own_exp (p1 : Int32) : Int32 := (if p1 < (0 : Int32) then (if p1 < (127 : Int32) then (if p1 = (8232 : Int32) then (if p1 = (8233 : Int32) then (1 : Int32) else (1 : Int32)) else (if p1 = (8233 : Int32) then (1 : Int32) else (0 : Int32))) else (if (159 : Int32) < p1 then (if p1 = (8232 : Int32) then (if p1 = (8233 : Int32) then (1 : Int32) else (1 : Int32)) else (if p1 = (8233 : Int32) then (1 : Int32) else (0 : Int32))) else (if p1 = (8232 : Int32) then (if p1 = (8233 : Int32) then (1 : Int32) else (1 : Int32)) else (if p1 = (8233 : Int32) then (1 : Int32) else (1 : Int32))))) else (if (31 : Int32) < p1 then (if p1 < (127 : Int32) then (if p1 = (8232 : Int32) then (if p1 = (8233 : Int32) then (1 : Int32) else (1 : Int32)) else (if p1 = (8233 : Int32) then (1 : Int32) else (0 : Int32))) else (if (159 : Int32) < p1 then (if p1 = (8232 : Int32) then (if p1 = (8233 : Int32) then (1 : Int32) else (1 : Int32)) else (if p1 = (8233 : Int32) then (1 : Int32) else (0 : Int32))) else (if p1 = (8232 : Int32) then (if p1 = (8233 : Int32) then (1 : Int32) else (1 : Int32)) else (if p1 = (8233 : Int32) then (1 : Int32) else (1 : Int32))))) else (if p1 < (127 : Int32) then (if p1 = (8232 : Int32) then (if p1 = (8233 : Int32) then (1 : Int32) else (1 : Int32)) else (if p1 = (8233 : Int32) then (1 : Int32) else (1 : Int32))) else (if (159 : Int32) < p1 then (if p1 = (8232 : Int32) then (if p1 = (8233 : Int32) then (1 : Int32) else (1 : Int32)) else (if p1 = (8233 : Int32) then (1 : Int32) else (1 : Int32))) else (if p1 = (8232 : Int32) then (if p1 = (8233 : Int32) then (1 : Int32) else (1 : Int32)) else (if p1 = (8233 : Int32) then (1 : Int32) else (1 : Int32)))))))
def Q3 (Z : State) (p1 : Int32) (h0 : Heap) (n0 : Nat) (v : Option Value) (h : Heap) (L : List Loc) : Prop := v = (some (.int (own_exp p1))) ∧ Fr n0 L ∧ h = h0
set_option maxRecDepth 65536 in
set_option maxHeartbeats 40000000 in
theorem rm3 (l : Launch) (Z : State) (a0 : Array Value) (hw : ∀ d ∈ tables_1, d.before a0 Z = true) (ws : List Jvm.Cond) (p1 : Int32) (h0 : Heap) (n0 : Nat) (Z0 : n0 ≤ h0.size) :
    MetFree l (⟨"com/example/permgrid/permgrid/ControlCharactersIsPinLaw", "expected", "(C)Z"⟩ : MethodName) (head1 (Jvm.Cond.code (⟨"com/example/permgrid/permgrid/ControlCharactersIsPinLaw", "expected", "(C)Z"⟩ : MethodName) method_2_code 6 (some .boolean) :: ws) ({ frames := 0, cells := 0, slots := 0, locals := 0 } : Room)) (fun a U => a = #[(.int p1)] ∧ Z.Warmed39 U.vm ∧ U.heap = h0) (fun _ _ _ _ _ => True) (fun _ U o U' => ∃ v L, o = .returned v ∧ Q3 Z p1 h0 n0 v U'.heap L ∧ FrameEnd U o U' L ({ frames := 0, cells := 0, slots := 0, locals := 0 } : Room).cells ({ frames := 0, cells := 0, slots := 0, locals := 0 } : Room).slots) := by
  refine MetFree.of_bodySF (plainFor_of_name pn_3) hisR ?_
  intro p e s m args below meth c s₁ Bd hml0 hP hK
  obtain ⟨rfl, hZ, hh⟩ := hP
  have hx := Bd.exec
  have hby := Bd.bytes
  have hml : c.maxLocals = 6 := hml0
  have hown : s.vm.findClass "com/example/permgrid/permgrid/ControlCharactersIsPinLaw" = some m.cls := findClass_of_methodNamed Bd.named
  have hnm := (name_of_methodNamed Bd.named Bd.method).1
  have X0 : Stand p l e ({ frames := 0, cells := 0, slots := 0, locals := 0 } : Room) s m #[(.int p1)] below meth c s₁ [] 0 0 := Stand.of_body Bd
  have e0 : s₁.heap = h0 := by rw [← hh, Bd.state]; rfl
  have N0 := Fr.nil n0
  obtain ⟨S0, hS0⟩ : ∃ z, z = s₁.setTop (entryFrame m #[(.int p1)] 6) := ⟨_, rfl⟩
  have pre0 : own_Go p e below S0 (s₁.setTop (mkF m 0 #[.val (.int p1), .unset, .unset, .unset, .unset, .unset] [])) := fun t k => by rw [hS0]; exact castTop (ef_3 m p1) k
  have fin : ∀ t, Steps p.tables e below S0 t → Steps p.tables e below (s₁.setTop (entryFrame m #[(.int p1)] 6)) t := fun t k => by rw [hS0] at k; exact k
  have pre2 : own_Go p e below S0 (s₁.setTop (mkF m 4 #[.val (.int p1), .val (.int p1), .unset, .unset, .unset, .unset] [(.int p1), (.int (0 : Int32))])) := by
    intro t kt
    refine pre0 t ?_
    refine XS.iloadN X0.here hx rfl (hb hby d3_0) rfl ?_
    show Steps p.tables e below (s₁.setTop (mkF m 1 #[.val (.int p1), .unset, .unset, .unset, .unset, .unset] [(.int p1)])) _
    refine XS.istoreN X0.here hx rfl (hb hby d3_1) rfl (l' := #[.val (.int p1), .val (.int p1), .unset, .unset, .unset, .unset]) rfl ?_
    show Steps p.tables e below (s₁.setTop (mkF m 2 #[.val (.int p1), .val (.int p1), .unset, .unset, .unset, .unset] [])) _
    refine XS.iconst X0.here hx rfl (hb hby d3_2) ?_
    show Steps p.tables e below (s₁.setTop (mkF m 3 #[.val (.int p1), .val (.int p1), .unset, .unset, .unset, .unset] [(.int (0 : Int32))])) _
    refine XS.iloadN X0.here hx rfl (hb hby d3_3) rfl ?_
    show Steps p.tables e below (s₁.setTop (mkF m 4 #[.val (.int p1), .val (.int p1), .unset, .unset, .unset, .unset] [(.int p1), (.int (0 : Int32))])) _
    exact kt
  by_cases hc1 : p1 < (0 : Int32)
  · have pre4 : own_Go p e below S0 (s₁.setTop (mkF m 22 #[.val (.int p1), .val (.int p1), .val (.int (0 : Int32)), .unset, .unset, .unset] [(.int p1), (.int (127 : Int32))])) := by
      intro t kt
      refine pre2 t ?_
      refine XS.icmpYes X0.here hx rfl (pc0 := 4) (pc' := 17) rfl (hb hby d3_4) rfl (tlt hc1).2.2.1 (by decide) (by decide) ?_
      show Steps p.tables e below (s₁.setTop (mkF m 17 #[.val (.int p1), .val (.int p1), .unset, .unset, .unset, .unset] [])) _
      refine XS.iconst X0.here hx rfl (hb hby d3_17) ?_
      show Steps p.tables e below (s₁.setTop (mkF m 18 #[.val (.int p1), .val (.int p1), .unset, .unset, .unset, .unset] [(.int (0 : Int32))])) _
      refine XS.istoreN X0.here hx rfl (hb hby d3_18) rfl (l' := #[.val (.int p1), .val (.int p1), .val (.int (0 : Int32)), .unset, .unset, .unset]) rfl ?_
      show Steps p.tables e below (s₁.setTop (mkF m 19 #[.val (.int p1), .val (.int p1), .val (.int (0 : Int32)), .unset, .unset, .unset] [])) _
      refine XS.bipush X0.here hx rfl (hb hby d3_19) ?_
      show Steps p.tables e below (s₁.setTop (mkF m 21 #[.val (.int p1), .val (.int p1), .val (.int (0 : Int32)), .unset, .unset, .unset] [(.int (127 : Int32))])) _
      refine XS.iloadN X0.here hx rfl (hb hby d3_21) rfl ?_
      show Steps p.tables e below (s₁.setTop (mkF m 22 #[.val (.int p1), .val (.int p1), .val (.int (0 : Int32)), .unset, .unset, .unset] [(.int p1), (.int (127 : Int32))])) _
      exact kt
    by_cases hc3 : p1 < (127 : Int32)
    · have pre6 : own_Go p e below S0 (s₁.setTop (mkF m 42 #[.val (.int p1), .val (.int p1), .val (.int (0 : Int32)), .val (.int (0 : Int32)), .unset, .unset] [(.int (8232 : Int32)), (.int p1)])) := by
        intro t kt
        refine pre4 t ?_
        refine XS.icmpYes X0.here hx rfl (pc0 := 22) (pc' := 36) rfl (hb hby d3_22) rfl (tlt hc3).2.2.1 (by decide) (by decide) ?_
        show Steps p.tables e below (s₁.setTop (mkF m 36 #[.val (.int p1), .val (.int p1), .val (.int (0 : Int32)), .unset, .unset, .unset] [])) _
        refine XS.iconst X0.here hx rfl (hb hby d3_36) ?_
        show Steps p.tables e below (s₁.setTop (mkF m 37 #[.val (.int p1), .val (.int p1), .val (.int (0 : Int32)), .unset, .unset, .unset] [(.int (0 : Int32))])) _
        refine XS.istoreN X0.here hx rfl (hb hby d3_37) rfl (l' := #[.val (.int p1), .val (.int p1), .val (.int (0 : Int32)), .val (.int (0 : Int32)), .unset, .unset]) rfl ?_
        show Steps p.tables e below (s₁.setTop (mkF m 38 #[.val (.int p1), .val (.int p1), .val (.int (0 : Int32)), .val (.int (0 : Int32)), .unset, .unset] [])) _
        refine XS.iloadN X0.here hx rfl (hb hby d3_38) rfl ?_
        show Steps p.tables e below (s₁.setTop (mkF m 39 #[.val (.int p1), .val (.int p1), .val (.int (0 : Int32)), .val (.int (0 : Int32)), .unset, .unset] [(.int p1)])) _
        refine XS.sipush X0.here hx rfl (hb hby d3_39) ?_
        show Steps p.tables e below (s₁.setTop (mkF m 42 #[.val (.int p1), .val (.int p1), .val (.int (0 : Int32)), .val (.int (0 : Int32)), .unset, .unset] [(.int (8232 : Int32)), (.int p1)])) _
        exact kt
      by_cases hc5 : p1 = (8232 : Int32)
      · have pre8 : own_Go p e below S0 (s₁.setTop (mkF m 56 #[.val (.int p1), .val (.int p1), .val (.int (0 : Int32)), .val (.int (0 : Int32)), .val (.int (1 : Int32)), .unset] [(.int (8233 : Int32)), (.int p1)])) := by
          intro t kt
          refine pre6 t ?_
          refine XS.icmpNo X0.here hx rfl (hb hby d3_42) rfl (teq hc5).2 ?_
          show Steps p.tables e below (s₁.setTop (mkF m 45 #[.val (.int p1), .val (.int p1), .val (.int (0 : Int32)), .val (.int (0 : Int32)), .unset, .unset] [])) _
          refine XS.iconst X0.here hx rfl (hb hby d3_45) ?_
          show Steps p.tables e below (s₁.setTop (mkF m 46 #[.val (.int p1), .val (.int p1), .val (.int (0 : Int32)), .val (.int (0 : Int32)), .unset, .unset] [(.int (1 : Int32))])) _
          refine XS.goto X0.here hx rfl (pc0 := 46) (pc' := 50) rfl (hb hby d3_46) (by decide) (by decide) ?_
          show Steps p.tables e below (s₁.setTop (mkF m 50 #[.val (.int p1), .val (.int p1), .val (.int (0 : Int32)), .val (.int (0 : Int32)), .unset, .unset] [(.int (1 : Int32))])) _
          refine XS.istore X0.here hx rfl (hb hby d3_50) rfl (l' := #[.val (.int p1), .val (.int p1), .val (.int (0 : Int32)), .val (.int (0 : Int32)), .val (.int (1 : Int32)), .unset]) rfl ?_
          show Steps p.tables e below (s₁.setTop (mkF m 52 #[.val (.int p1), .val (.int p1), .val (.int (0 : Int32)), .val (.int (0 : Int32)), .val (.int (1 : Int32)), .unset] [])) _
          refine XS.iloadN X0.here hx rfl (hb hby d3_52) rfl ?_
          show Steps p.tables e below (s₁.setTop (mkF m 53 #[.val (.int p1), .val (.int p1), .val (.int (0 : Int32)), .val (.int (0 : Int32)), .val (.int (1 : Int32)), .unset] [(.int p1)])) _
          refine XS.sipush X0.here hx rfl (hb hby d3_53) ?_
          show Steps p.tables e below (s₁.setTop (mkF m 56 #[.val (.int p1), .val (.int p1), .val (.int (0 : Int32)), .val (.int (0 : Int32)), .val (.int (1 : Int32)), .unset] [(.int (8233 : Int32)), (.int p1)])) _
          exact kt
        by_cases hc7 : p1 = (8233 : Int32)
        · have pre9 : own_Go p e below S0 (s₁.setTop (mkF m 89 #[.val (.int p1), .val (.int p1), .val (.int (0 : Int32)), .val (.int (0 : Int32)), .val (.int (1 : Int32)), .val (.int (1 : Int32))] [(.int (1 : Int32))])) := by
            intro t kt
            refine pre8 t ?_
            refine XS.icmpNo X0.here hx rfl (hb hby d3_56) rfl (teq hc7).2 ?_
            show Steps p.tables e below (s₁.setTop (mkF m 59 #[.val (.int p1), .val (.int p1), .val (.int (0 : Int32)), .val (.int (0 : Int32)), .val (.int (1 : Int32)), .unset] [])) _
            refine XS.iconst X0.here hx rfl (hb hby d3_59) ?_
            show Steps p.tables e below (s₁.setTop (mkF m 60 #[.val (.int p1), .val (.int p1), .val (.int (0 : Int32)), .val (.int (0 : Int32)), .val (.int (1 : Int32)), .unset] [(.int (1 : Int32))])) _
            refine XS.goto X0.here hx rfl (pc0 := 60) (pc' := 64) rfl (hb hby d3_60) (by decide) (by decide) ?_
            show Steps p.tables e below (s₁.setTop (mkF m 64 #[.val (.int p1), .val (.int p1), .val (.int (0 : Int32)), .val (.int (0 : Int32)), .val (.int (1 : Int32)), .unset] [(.int (1 : Int32))])) _
            refine XS.istore X0.here hx rfl (hb hby d3_64) rfl (l' := #[.val (.int p1), .val (.int p1), .val (.int (0 : Int32)), .val (.int (0 : Int32)), .val (.int (1 : Int32)), .val (.int (1 : Int32))]) rfl ?_
            show Steps p.tables e below (s₁.setTop (mkF m 66 #[.val (.int p1), .val (.int p1), .val (.int (0 : Int32)), .val (.int (0 : Int32)), .val (.int (1 : Int32)), .val (.int (1 : Int32))] [])) _
            refine XS.iloadN X0.here hx rfl (hb hby d3_66) rfl ?_
            show Steps p.tables e below (s₁.setTop (mkF m 67 #[.val (.int p1), .val (.int p1), .val (.int (0 : Int32)), .val (.int (0 : Int32)), .val (.int (1 : Int32)), .val (.int (1 : Int32))] [(.int (0 : Int32))])) _
            refine XS.ifNo X0.here hx rfl (hb hby d3_67) rfl ((if0 _ _).trans (teq (by decide : (0 : Int32) = (0 : Int32))).2) ?_
            show Steps p.tables e below (s₁.setTop (mkF m 70 #[.val (.int p1), .val (.int p1), .val (.int (0 : Int32)), .val (.int (0 : Int32)), .val (.int (1 : Int32)), .val (.int (1 : Int32))] [])) _
            refine XS.iloadN X0.here hx rfl (hb hby d3_70) rfl ?_
            show Steps p.tables e below (s₁.setTop (mkF m 71 #[.val (.int p1), .val (.int p1), .val (.int (0 : Int32)), .val (.int (0 : Int32)), .val (.int (1 : Int32)), .val (.int (1 : Int32))] [(.int (0 : Int32))])) _
            refine XS.ifNo X0.here hx rfl (hb hby d3_71) rfl ((if0 _ _).trans (teq (by decide : (0 : Int32) = (0 : Int32))).2) ?_
            show Steps p.tables e below (s₁.setTop (mkF m 74 #[.val (.int p1), .val (.int p1), .val (.int (0 : Int32)), .val (.int (0 : Int32)), .val (.int (1 : Int32)), .val (.int (1 : Int32))] [])) _
            refine XS.iload X0.here hx rfl (hb hby d3_74) rfl ?_
            show Steps p.tables e below (s₁.setTop (mkF m 76 #[.val (.int p1), .val (.int p1), .val (.int (0 : Int32)), .val (.int (0 : Int32)), .val (.int (1 : Int32)), .val (.int (1 : Int32))] [(.int (1 : Int32))])) _
            refine XS.ifYes X0.here hx rfl (pc0 := 76) (pc' := 84) rfl (hb hby d3_76) rfl ((if0 _ _).trans (feq (by decide : ¬ ((1 : Int32) = (0 : Int32)))).2) (by decide) (by decide) ?_
            show Steps p.tables e below (s₁.setTop (mkF m 84 #[.val (.int p1), .val (.int p1), .val (.int (0 : Int32)), .val (.int (0 : Int32)), .val (.int (1 : Int32)), .val (.int (1 : Int32))] [])) _
            refine XS.iconst X0.here hx rfl (hb hby d3_84) ?_
            show Steps p.tables e below (s₁.setTop (mkF m 85 #[.val (.int p1), .val (.int p1), .val (.int (0 : Int32)), .val (.int (0 : Int32)), .val (.int (1 : Int32)), .val (.int (1 : Int32))] [(.int (1 : Int32))])) _
            refine XS.goto X0.here hx rfl (pc0 := 85) (pc' := 89) rfl (hb hby d3_85) (by decide) (by decide) ?_
            show Steps p.tables e below (s₁.setTop (mkF m 89 #[.val (.int p1), .val (.int p1), .val (.int (0 : Int32)), .val (.int (0 : Int32)), .val (.int (1 : Int32)), .val (.int (1 : Int32))] [(.int (1 : Int32))])) _
            exact kt
          obtain ⟨fs, hr, hrun, hended, hW, hsame⟩ := X0.leave (v := some (.int (1 : Int32))) (fun h => by rw [Bd.returns] at h; cases h)
          refine ⟨_, _, fin _ (pre9 _ ?_), hrun, hended, _, _, rfl, ?_, ⟨_, rfl⟩, hW, hsame.mono (by decide) (by decide)⟩
          · exact retN X0 hx (t := .boolean) Bd.returns (by simp) (hb hby d3_89) hr
          · show Q3 Z p1 h0 n0 _ s₁.heap _
            rw [e0]
            exact ⟨(by show some _ = some _; rw [own_exp, if_pos hc1, if_pos hc3, if_pos hc5, if_pos hc7]), N0, rfl⟩
        · have pre10 : own_Go p e below S0 (s₁.setTop (mkF m 89 #[.val (.int p1), .val (.int p1), .val (.int (0 : Int32)), .val (.int (0 : Int32)), .val (.int (1 : Int32)), .val (.int (0 : Int32))] [(.int (1 : Int32))])) := by
            intro t kt
            refine pre8 t ?_
            refine XS.icmpYes X0.here hx rfl (pc0 := 56) (pc' := 63) rfl (hb hby d3_56) rfl (feq hc7).2 (by decide) (by decide) ?_
            show Steps p.tables e below (s₁.setTop (mkF m 63 #[.val (.int p1), .val (.int p1), .val (.int (0 : Int32)), .val (.int (0 : Int32)), .val (.int (1 : Int32)), .unset] [])) _
            refine XS.iconst X0.here hx rfl (hb hby d3_63) ?_
            show Steps p.tables e below (s₁.setTop (mkF m 64 #[.val (.int p1), .val (.int p1), .val (.int (0 : Int32)), .val (.int (0 : Int32)), .val (.int (1 : Int32)), .unset] [(.int (0 : Int32))])) _
            refine XS.istore X0.here hx rfl (hb hby d3_64) rfl (l' := #[.val (.int p1), .val (.int p1), .val (.int (0 : Int32)), .val (.int (0 : Int32)), .val (.int (1 : Int32)), .val (.int (0 : Int32))]) rfl ?_
            show Steps p.tables e below (s₁.setTop (mkF m 66 #[.val (.int p1), .val (.int p1), .val (.int (0 : Int32)), .val (.int (0 : Int32)), .val (.int (1 : Int32)), .val (.int (0 : Int32))] [])) _
            refine XS.iloadN X0.here hx rfl (hb hby d3_66) rfl ?_
            show Steps p.tables e below (s₁.setTop (mkF m 67 #[.val (.int p1), .val (.int p1), .val (.int (0 : Int32)), .val (.int (0 : Int32)), .val (.int (1 : Int32)), .val (.int (0 : Int32))] [(.int (0 : Int32))])) _
            refine XS.ifNo X0.here hx rfl (hb hby d3_67) rfl ((if0 _ _).trans (teq (by decide : (0 : Int32) = (0 : Int32))).2) ?_
            show Steps p.tables e below (s₁.setTop (mkF m 70 #[.val (.int p1), .val (.int p1), .val (.int (0 : Int32)), .val (.int (0 : Int32)), .val (.int (1 : Int32)), .val (.int (0 : Int32))] [])) _
            refine XS.iloadN X0.here hx rfl (hb hby d3_70) rfl ?_
            show Steps p.tables e below (s₁.setTop (mkF m 71 #[.val (.int p1), .val (.int p1), .val (.int (0 : Int32)), .val (.int (0 : Int32)), .val (.int (1 : Int32)), .val (.int (0 : Int32))] [(.int (0 : Int32))])) _
            refine XS.ifNo X0.here hx rfl (hb hby d3_71) rfl ((if0 _ _).trans (teq (by decide : (0 : Int32) = (0 : Int32))).2) ?_
            show Steps p.tables e below (s₁.setTop (mkF m 74 #[.val (.int p1), .val (.int p1), .val (.int (0 : Int32)), .val (.int (0 : Int32)), .val (.int (1 : Int32)), .val (.int (0 : Int32))] [])) _
            refine XS.iload X0.here hx rfl (hb hby d3_74) rfl ?_
            show Steps p.tables e below (s₁.setTop (mkF m 76 #[.val (.int p1), .val (.int p1), .val (.int (0 : Int32)), .val (.int (0 : Int32)), .val (.int (1 : Int32)), .val (.int (0 : Int32))] [(.int (1 : Int32))])) _
            refine XS.ifYes X0.here hx rfl (pc0 := 76) (pc' := 84) rfl (hb hby d3_76) rfl ((if0 _ _).trans (feq (by decide : ¬ ((1 : Int32) = (0 : Int32)))).2) (by decide) (by decide) ?_
            show Steps p.tables e below (s₁.setTop (mkF m 84 #[.val (.int p1), .val (.int p1), .val (.int (0 : Int32)), .val (.int (0 : Int32)), .val (.int (1 : Int32)), .val (.int (0 : Int32))] [])) _
            refine XS.iconst X0.here hx rfl (hb hby d3_84) ?_
            show Steps p.tables e below (s₁.setTop (mkF m 85 #[.val (.int p1), .val (.int p1), .val (.int (0 : Int32)), .val (.int (0 : Int32)), .val (.int (1 : Int32)), .val (.int (0 : Int32))] [(.int (1 : Int32))])) _
            refine XS.goto X0.here hx rfl (pc0 := 85) (pc' := 89) rfl (hb hby d3_85) (by decide) (by decide) ?_
            show Steps p.tables e below (s₁.setTop (mkF m 89 #[.val (.int p1), .val (.int p1), .val (.int (0 : Int32)), .val (.int (0 : Int32)), .val (.int (1 : Int32)), .val (.int (0 : Int32))] [(.int (1 : Int32))])) _
            exact kt
          obtain ⟨fs, hr, hrun, hended, hW, hsame⟩ := X0.leave (v := some (.int (1 : Int32))) (fun h => by rw [Bd.returns] at h; cases h)
          refine ⟨_, _, fin _ (pre10 _ ?_), hrun, hended, _, _, rfl, ?_, ⟨_, rfl⟩, hW, hsame.mono (by decide) (by decide)⟩
          · exact retN X0 hx (t := .boolean) Bd.returns (by simp) (hb hby d3_89) hr
          · show Q3 Z p1 h0 n0 _ s₁.heap _
            rw [e0]
            exact ⟨(by show some _ = some _; rw [own_exp, if_pos hc1, if_pos hc3, if_pos hc5, if_neg hc7]), N0, rfl⟩
      · have pre12 : own_Go p e below S0 (s₁.setTop (mkF m 56 #[.val (.int p1), .val (.int p1), .val (.int (0 : Int32)), .val (.int (0 : Int32)), .val (.int (0 : Int32)), .unset] [(.int (8233 : Int32)), (.int p1)])) := by
          intro t kt
          refine pre6 t ?_
          refine XS.icmpYes X0.here hx rfl (pc0 := 42) (pc' := 49) rfl (hb hby d3_42) rfl (feq hc5).2 (by decide) (by decide) ?_
          show Steps p.tables e below (s₁.setTop (mkF m 49 #[.val (.int p1), .val (.int p1), .val (.int (0 : Int32)), .val (.int (0 : Int32)), .unset, .unset] [])) _
          refine XS.iconst X0.here hx rfl (hb hby d3_49) ?_
          show Steps p.tables e below (s₁.setTop (mkF m 50 #[.val (.int p1), .val (.int p1), .val (.int (0 : Int32)), .val (.int (0 : Int32)), .unset, .unset] [(.int (0 : Int32))])) _
          refine XS.istore X0.here hx rfl (hb hby d3_50) rfl (l' := #[.val (.int p1), .val (.int p1), .val (.int (0 : Int32)), .val (.int (0 : Int32)), .val (.int (0 : Int32)), .unset]) rfl ?_
          show Steps p.tables e below (s₁.setTop (mkF m 52 #[.val (.int p1), .val (.int p1), .val (.int (0 : Int32)), .val (.int (0 : Int32)), .val (.int (0 : Int32)), .unset] [])) _
          refine XS.iloadN X0.here hx rfl (hb hby d3_52) rfl ?_
          show Steps p.tables e below (s₁.setTop (mkF m 53 #[.val (.int p1), .val (.int p1), .val (.int (0 : Int32)), .val (.int (0 : Int32)), .val (.int (0 : Int32)), .unset] [(.int p1)])) _
          refine XS.sipush X0.here hx rfl (hb hby d3_53) ?_
          show Steps p.tables e below (s₁.setTop (mkF m 56 #[.val (.int p1), .val (.int p1), .val (.int (0 : Int32)), .val (.int (0 : Int32)), .val (.int (0 : Int32)), .unset] [(.int (8233 : Int32)), (.int p1)])) _
          exact kt
        by_cases hc11 : p1 = (8233 : Int32)
        · have pre13 : own_Go p e below S0 (s₁.setTop (mkF m 89 #[.val (.int p1), .val (.int p1), .val (.int (0 : Int32)), .val (.int (0 : Int32)), .val (.int (0 : Int32)), .val (.int (1 : Int32))] [(.int (1 : Int32))])) := by
            intro t kt
            refine pre12 t ?_
            refine XS.icmpNo X0.here hx rfl (hb hby d3_56) rfl (teq hc11).2 ?_
            show Steps p.tables e below (s₁.setTop (mkF m 59 #[.val (.int p1), .val (.int p1), .val (.int (0 : Int32)), .val (.int (0 : Int32)), .val (.int (0 : Int32)), .unset] [])) _
            refine XS.iconst X0.here hx rfl (hb hby d3_59) ?_
            show Steps p.tables e below (s₁.setTop (mkF m 60 #[.val (.int p1), .val (.int p1), .val (.int (0 : Int32)), .val (.int (0 : Int32)), .val (.int (0 : Int32)), .unset] [(.int (1 : Int32))])) _
            refine XS.goto X0.here hx rfl (pc0 := 60) (pc' := 64) rfl (hb hby d3_60) (by decide) (by decide) ?_
            show Steps p.tables e below (s₁.setTop (mkF m 64 #[.val (.int p1), .val (.int p1), .val (.int (0 : Int32)), .val (.int (0 : Int32)), .val (.int (0 : Int32)), .unset] [(.int (1 : Int32))])) _
            refine XS.istore X0.here hx rfl (hb hby d3_64) rfl (l' := #[.val (.int p1), .val (.int p1), .val (.int (0 : Int32)), .val (.int (0 : Int32)), .val (.int (0 : Int32)), .val (.int (1 : Int32))]) rfl ?_
            show Steps p.tables e below (s₁.setTop (mkF m 66 #[.val (.int p1), .val (.int p1), .val (.int (0 : Int32)), .val (.int (0 : Int32)), .val (.int (0 : Int32)), .val (.int (1 : Int32))] [])) _
            refine XS.iloadN X0.here hx rfl (hb hby d3_66) rfl ?_
            show Steps p.tables e below (s₁.setTop (mkF m 67 #[.val (.int p1), .val (.int p1), .val (.int (0 : Int32)), .val (.int (0 : Int32)), .val (.int (0 : Int32)), .val (.int (1 : Int32))] [(.int (0 : Int32))])) _
            refine XS.ifNo X0.here hx rfl (hb hby d3_67) rfl ((if0 _ _).trans (teq (by decide : (0 : Int32) = (0 : Int32))).2) ?_
            show Steps p.tables e below (s₁.setTop (mkF m 70 #[.val (.int p1), .val (.int p1), .val (.int (0 : Int32)), .val (.int (0 : Int32)), .val (.int (0 : Int32)), .val (.int (1 : Int32))] [])) _
            refine XS.iloadN X0.here hx rfl (hb hby d3_70) rfl ?_
            show Steps p.tables e below (s₁.setTop (mkF m 71 #[.val (.int p1), .val (.int p1), .val (.int (0 : Int32)), .val (.int (0 : Int32)), .val (.int (0 : Int32)), .val (.int (1 : Int32))] [(.int (0 : Int32))])) _
            refine XS.ifNo X0.here hx rfl (hb hby d3_71) rfl ((if0 _ _).trans (teq (by decide : (0 : Int32) = (0 : Int32))).2) ?_
            show Steps p.tables e below (s₁.setTop (mkF m 74 #[.val (.int p1), .val (.int p1), .val (.int (0 : Int32)), .val (.int (0 : Int32)), .val (.int (0 : Int32)), .val (.int (1 : Int32))] [])) _
            refine XS.iload X0.here hx rfl (hb hby d3_74) rfl ?_
            show Steps p.tables e below (s₁.setTop (mkF m 76 #[.val (.int p1), .val (.int p1), .val (.int (0 : Int32)), .val (.int (0 : Int32)), .val (.int (0 : Int32)), .val (.int (1 : Int32))] [(.int (0 : Int32))])) _
            refine XS.ifNo X0.here hx rfl (hb hby d3_76) rfl ((if0 _ _).trans (teq (by decide : (0 : Int32) = (0 : Int32))).2) ?_
            show Steps p.tables e below (s₁.setTop (mkF m 79 #[.val (.int p1), .val (.int p1), .val (.int (0 : Int32)), .val (.int (0 : Int32)), .val (.int (0 : Int32)), .val (.int (1 : Int32))] [])) _
            refine XS.iload X0.here hx rfl (hb hby d3_79) rfl ?_
            show Steps p.tables e below (s₁.setTop (mkF m 81 #[.val (.int p1), .val (.int p1), .val (.int (0 : Int32)), .val (.int (0 : Int32)), .val (.int (0 : Int32)), .val (.int (1 : Int32))] [(.int (1 : Int32))])) _
            refine XS.ifNo X0.here hx rfl (hb hby d3_81) rfl ((if0 _ _).trans (feq (by decide : ¬ ((1 : Int32) = (0 : Int32)))).1) ?_
            show Steps p.tables e below (s₁.setTop (mkF m 84 #[.val (.int p1), .val (.int p1), .val (.int (0 : Int32)), .val (.int (0 : Int32)), .val (.int (0 : Int32)), .val (.int (1 : Int32))] [])) _
            refine XS.iconst X0.here hx rfl (hb hby d3_84) ?_
            show Steps p.tables e below (s₁.setTop (mkF m 85 #[.val (.int p1), .val (.int p1), .val (.int (0 : Int32)), .val (.int (0 : Int32)), .val (.int (0 : Int32)), .val (.int (1 : Int32))] [(.int (1 : Int32))])) _
            refine XS.goto X0.here hx rfl (pc0 := 85) (pc' := 89) rfl (hb hby d3_85) (by decide) (by decide) ?_
            show Steps p.tables e below (s₁.setTop (mkF m 89 #[.val (.int p1), .val (.int p1), .val (.int (0 : Int32)), .val (.int (0 : Int32)), .val (.int (0 : Int32)), .val (.int (1 : Int32))] [(.int (1 : Int32))])) _
            exact kt
          obtain ⟨fs, hr, hrun, hended, hW, hsame⟩ := X0.leave (v := some (.int (1 : Int32))) (fun h => by rw [Bd.returns] at h; cases h)
          refine ⟨_, _, fin _ (pre13 _ ?_), hrun, hended, _, _, rfl, ?_, ⟨_, rfl⟩, hW, hsame.mono (by decide) (by decide)⟩
          · exact retN X0 hx (t := .boolean) Bd.returns (by simp) (hb hby d3_89) hr
          · show Q3 Z p1 h0 n0 _ s₁.heap _
            rw [e0]
            exact ⟨(by show some _ = some _; rw [own_exp, if_pos hc1, if_pos hc3, if_neg hc5, if_pos hc11]), N0, rfl⟩
        · have pre14 : own_Go p e below S0 (s₁.setTop (mkF m 89 #[.val (.int p1), .val (.int p1), .val (.int (0 : Int32)), .val (.int (0 : Int32)), .val (.int (0 : Int32)), .val (.int (0 : Int32))] [(.int (0 : Int32))])) := by
            intro t kt
            refine pre12 t ?_
            refine XS.icmpYes X0.here hx rfl (pc0 := 56) (pc' := 63) rfl (hb hby d3_56) rfl (feq hc11).2 (by decide) (by decide) ?_
            show Steps p.tables e below (s₁.setTop (mkF m 63 #[.val (.int p1), .val (.int p1), .val (.int (0 : Int32)), .val (.int (0 : Int32)), .val (.int (0 : Int32)), .unset] [])) _
            refine XS.iconst X0.here hx rfl (hb hby d3_63) ?_
            show Steps p.tables e below (s₁.setTop (mkF m 64 #[.val (.int p1), .val (.int p1), .val (.int (0 : Int32)), .val (.int (0 : Int32)), .val (.int (0 : Int32)), .unset] [(.int (0 : Int32))])) _
            refine XS.istore X0.here hx rfl (hb hby d3_64) rfl (l' := #[.val (.int p1), .val (.int p1), .val (.int (0 : Int32)), .val (.int (0 : Int32)), .val (.int (0 : Int32)), .val (.int (0 : Int32))]) rfl ?_
            show Steps p.tables e below (s₁.setTop (mkF m 66 #[.val (.int p1), .val (.int p1), .val (.int (0 : Int32)), .val (.int (0 : Int32)), .val (.int (0 : Int32)), .val (.int (0 : Int32))] [])) _
            refine XS.iloadN X0.here hx rfl (hb hby d3_66) rfl ?_
            show Steps p.tables e below (s₁.setTop (mkF m 67 #[.val (.int p1), .val (.int p1), .val (.int (0 : Int32)), .val (.int (0 : Int32)), .val (.int (0 : Int32)), .val (.int (0 : Int32))] [(.int (0 : Int32))])) _
            refine XS.ifNo X0.here hx rfl (hb hby d3_67) rfl ((if0 _ _).trans (teq (by decide : (0 : Int32) = (0 : Int32))).2) ?_
            show Steps p.tables e below (s₁.setTop (mkF m 70 #[.val (.int p1), .val (.int p1), .val (.int (0 : Int32)), .val (.int (0 : Int32)), .val (.int (0 : Int32)), .val (.int (0 : Int32))] [])) _
            refine XS.iloadN X0.here hx rfl (hb hby d3_70) rfl ?_
            show Steps p.tables e below (s₁.setTop (mkF m 71 #[.val (.int p1), .val (.int p1), .val (.int (0 : Int32)), .val (.int (0 : Int32)), .val (.int (0 : Int32)), .val (.int (0 : Int32))] [(.int (0 : Int32))])) _
            refine XS.ifNo X0.here hx rfl (hb hby d3_71) rfl ((if0 _ _).trans (teq (by decide : (0 : Int32) = (0 : Int32))).2) ?_
            show Steps p.tables e below (s₁.setTop (mkF m 74 #[.val (.int p1), .val (.int p1), .val (.int (0 : Int32)), .val (.int (0 : Int32)), .val (.int (0 : Int32)), .val (.int (0 : Int32))] [])) _
            refine XS.iload X0.here hx rfl (hb hby d3_74) rfl ?_
            show Steps p.tables e below (s₁.setTop (mkF m 76 #[.val (.int p1), .val (.int p1), .val (.int (0 : Int32)), .val (.int (0 : Int32)), .val (.int (0 : Int32)), .val (.int (0 : Int32))] [(.int (0 : Int32))])) _
            refine XS.ifNo X0.here hx rfl (hb hby d3_76) rfl ((if0 _ _).trans (teq (by decide : (0 : Int32) = (0 : Int32))).2) ?_
            show Steps p.tables e below (s₁.setTop (mkF m 79 #[.val (.int p1), .val (.int p1), .val (.int (0 : Int32)), .val (.int (0 : Int32)), .val (.int (0 : Int32)), .val (.int (0 : Int32))] [])) _
            refine XS.iload X0.here hx rfl (hb hby d3_79) rfl ?_
            show Steps p.tables e below (s₁.setTop (mkF m 81 #[.val (.int p1), .val (.int p1), .val (.int (0 : Int32)), .val (.int (0 : Int32)), .val (.int (0 : Int32)), .val (.int (0 : Int32))] [(.int (0 : Int32))])) _
            refine XS.ifYes X0.here hx rfl (pc0 := 81) (pc' := 88) rfl (hb hby d3_81) rfl ((if0 _ _).trans (teq (by decide : (0 : Int32) = (0 : Int32))).1) (by decide) (by decide) ?_
            show Steps p.tables e below (s₁.setTop (mkF m 88 #[.val (.int p1), .val (.int p1), .val (.int (0 : Int32)), .val (.int (0 : Int32)), .val (.int (0 : Int32)), .val (.int (0 : Int32))] [])) _
            refine XS.iconst X0.here hx rfl (hb hby d3_88) ?_
            show Steps p.tables e below (s₁.setTop (mkF m 89 #[.val (.int p1), .val (.int p1), .val (.int (0 : Int32)), .val (.int (0 : Int32)), .val (.int (0 : Int32)), .val (.int (0 : Int32))] [(.int (0 : Int32))])) _
            exact kt
          obtain ⟨fs, hr, hrun, hended, hW, hsame⟩ := X0.leave (v := some (.int (0 : Int32))) (fun h => by rw [Bd.returns] at h; cases h)
          refine ⟨_, _, fin _ (pre14 _ ?_), hrun, hended, _, _, rfl, ?_, ⟨_, rfl⟩, hW, hsame.mono (by decide) (by decide)⟩
          · exact retN X0 hx (t := .boolean) Bd.returns (by simp) (hb hby d3_89) hr
          · show Q3 Z p1 h0 n0 _ s₁.heap _
            rw [e0]
            exact ⟨(by show some _ = some _; rw [own_exp, if_pos hc1, if_pos hc3, if_neg hc5, if_neg hc11]), N0, rfl⟩
    · have pre16 : own_Go p e below S0 (s₁.setTop (mkF m 29 #[.val (.int p1), .val (.int p1), .val (.int (0 : Int32)), .unset, .unset, .unset] [(.int (159 : Int32)), (.int p1)])) := by
        intro t kt
        refine pre4 t ?_
        refine XS.icmpNo X0.here hx rfl (hb hby d3_22) rfl (flt hc3).2.2.1 ?_
        show Steps p.tables e below (s₁.setTop (mkF m 25 #[.val (.int p1), .val (.int p1), .val (.int (0 : Int32)), .unset, .unset, .unset] [])) _
        refine XS.iloadN X0.here hx rfl (hb hby d3_25) rfl ?_
        show Steps p.tables e below (s₁.setTop (mkF m 26 #[.val (.int p1), .val (.int p1), .val (.int (0 : Int32)), .unset, .unset, .unset] [(.int p1)])) _
        refine XS.sipush X0.here hx rfl (hb hby d3_26) ?_
        show Steps p.tables e below (s₁.setTop (mkF m 29 #[.val (.int p1), .val (.int p1), .val (.int (0 : Int32)), .unset, .unset, .unset] [(.int (159 : Int32)), (.int p1)])) _
        exact kt
      by_cases hc15 : (159 : Int32) < p1
      · have pre18 : own_Go p e below S0 (s₁.setTop (mkF m 42 #[.val (.int p1), .val (.int p1), .val (.int (0 : Int32)), .val (.int (0 : Int32)), .unset, .unset] [(.int (8232 : Int32)), (.int p1)])) := by
          intro t kt
          refine pre16 t ?_
          refine XS.icmpYes X0.here hx rfl (pc0 := 29) (pc' := 36) rfl (hb hby d3_29) rfl (tlt hc15).2.2.1 (by decide) (by decide) ?_
          show Steps p.tables e below (s₁.setTop (mkF m 36 #[.val (.int p1), .val (.int p1), .val (.int (0 : Int32)), .unset, .unset, .unset] [])) _
          refine XS.iconst X0.here hx rfl (hb hby d3_36) ?_
          show Steps p.tables e below (s₁.setTop (mkF m 37 #[.val (.int p1), .val (.int p1), .val (.int (0 : Int32)), .unset, .unset, .unset] [(.int (0 : Int32))])) _
          refine XS.istoreN X0.here hx rfl (hb hby d3_37) rfl (l' := #[.val (.int p1), .val (.int p1), .val (.int (0 : Int32)), .val (.int (0 : Int32)), .unset, .unset]) rfl ?_
          show Steps p.tables e below (s₁.setTop (mkF m 38 #[.val (.int p1), .val (.int p1), .val (.int (0 : Int32)), .val (.int (0 : Int32)), .unset, .unset] [])) _
          refine XS.iloadN X0.here hx rfl (hb hby d3_38) rfl ?_
          show Steps p.tables e below (s₁.setTop (mkF m 39 #[.val (.int p1), .val (.int p1), .val (.int (0 : Int32)), .val (.int (0 : Int32)), .unset, .unset] [(.int p1)])) _
          refine XS.sipush X0.here hx rfl (hb hby d3_39) ?_
          show Steps p.tables e below (s₁.setTop (mkF m 42 #[.val (.int p1), .val (.int p1), .val (.int (0 : Int32)), .val (.int (0 : Int32)), .unset, .unset] [(.int (8232 : Int32)), (.int p1)])) _
          exact kt
        by_cases hc17 : p1 = (8232 : Int32)
        · have pre20 : own_Go p e below S0 (s₁.setTop (mkF m 56 #[.val (.int p1), .val (.int p1), .val (.int (0 : Int32)), .val (.int (0 : Int32)), .val (.int (1 : Int32)), .unset] [(.int (8233 : Int32)), (.int p1)])) := by
            intro t kt
            refine pre18 t ?_
            refine XS.icmpNo X0.here hx rfl (hb hby d3_42) rfl (teq hc17).2 ?_
            show Steps p.tables e below (s₁.setTop (mkF m 45 #[.val (.int p1), .val (.int p1), .val (.int (0 : Int32)), .val (.int (0 : Int32)), .unset, .unset] [])) _
            refine XS.iconst X0.here hx rfl (hb hby d3_45) ?_
            show Steps p.tables e below (s₁.setTop (mkF m 46 #[.val (.int p1), .val (.int p1), .val (.int (0 : Int32)), .val (.int (0 : Int32)), .unset, .unset] [(.int (1 : Int32))])) _
            refine XS.goto X0.here hx rfl (pc0 := 46) (pc' := 50) rfl (hb hby d3_46) (by decide) (by decide) ?_
            show Steps p.tables e below (s₁.setTop (mkF m 50 #[.val (.int p1), .val (.int p1), .val (.int (0 : Int32)), .val (.int (0 : Int32)), .unset, .unset] [(.int (1 : Int32))])) _
            refine XS.istore X0.here hx rfl (hb hby d3_50) rfl (l' := #[.val (.int p1), .val (.int p1), .val (.int (0 : Int32)), .val (.int (0 : Int32)), .val (.int (1 : Int32)), .unset]) rfl ?_
            show Steps p.tables e below (s₁.setTop (mkF m 52 #[.val (.int p1), .val (.int p1), .val (.int (0 : Int32)), .val (.int (0 : Int32)), .val (.int (1 : Int32)), .unset] [])) _
            refine XS.iloadN X0.here hx rfl (hb hby d3_52) rfl ?_
            show Steps p.tables e below (s₁.setTop (mkF m 53 #[.val (.int p1), .val (.int p1), .val (.int (0 : Int32)), .val (.int (0 : Int32)), .val (.int (1 : Int32)), .unset] [(.int p1)])) _
            refine XS.sipush X0.here hx rfl (hb hby d3_53) ?_
            show Steps p.tables e below (s₁.setTop (mkF m 56 #[.val (.int p1), .val (.int p1), .val (.int (0 : Int32)), .val (.int (0 : Int32)), .val (.int (1 : Int32)), .unset] [(.int (8233 : Int32)), (.int p1)])) _
            exact kt
          by_cases hc19 : p1 = (8233 : Int32)
          · have pre21 : own_Go p e below S0 (s₁.setTop (mkF m 89 #[.val (.int p1), .val (.int p1), .val (.int (0 : Int32)), .val (.int (0 : Int32)), .val (.int (1 : Int32)), .val (.int (1 : Int32))] [(.int (1 : Int32))])) := by
              intro t kt
              refine pre20 t ?_
              refine XS.icmpNo X0.here hx rfl (hb hby d3_56) rfl (teq hc19).2 ?_
              show Steps p.tables e below (s₁.setTop (mkF m 59 #[.val (.int p1), .val (.int p1), .val (.int (0 : Int32)), .val (.int (0 : Int32)), .val (.int (1 : Int32)), .unset] [])) _
              refine XS.iconst X0.here hx rfl (hb hby d3_59) ?_
              show Steps p.tables e below (s₁.setTop (mkF m 60 #[.val (.int p1), .val (.int p1), .val (.int (0 : Int32)), .val (.int (0 : Int32)), .val (.int (1 : Int32)), .unset] [(.int (1 : Int32))])) _
              refine XS.goto X0.here hx rfl (pc0 := 60) (pc' := 64) rfl (hb hby d3_60) (by decide) (by decide) ?_
              show Steps p.tables e below (s₁.setTop (mkF m 64 #[.val (.int p1), .val (.int p1), .val (.int (0 : Int32)), .val (.int (0 : Int32)), .val (.int (1 : Int32)), .unset] [(.int (1 : Int32))])) _
              refine XS.istore X0.here hx rfl (hb hby d3_64) rfl (l' := #[.val (.int p1), .val (.int p1), .val (.int (0 : Int32)), .val (.int (0 : Int32)), .val (.int (1 : Int32)), .val (.int (1 : Int32))]) rfl ?_
              show Steps p.tables e below (s₁.setTop (mkF m 66 #[.val (.int p1), .val (.int p1), .val (.int (0 : Int32)), .val (.int (0 : Int32)), .val (.int (1 : Int32)), .val (.int (1 : Int32))] [])) _
              refine XS.iloadN X0.here hx rfl (hb hby d3_66) rfl ?_
              show Steps p.tables e below (s₁.setTop (mkF m 67 #[.val (.int p1), .val (.int p1), .val (.int (0 : Int32)), .val (.int (0 : Int32)), .val (.int (1 : Int32)), .val (.int (1 : Int32))] [(.int (0 : Int32))])) _
              refine XS.ifNo X0.here hx rfl (hb hby d3_67) rfl ((if0 _ _).trans (teq (by decide : (0 : Int32) = (0 : Int32))).2) ?_
              show Steps p.tables e below (s₁.setTop (mkF m 70 #[.val (.int p1), .val (.int p1), .val (.int (0 : Int32)), .val (.int (0 : Int32)), .val (.int (1 : Int32)), .val (.int (1 : Int32))] [])) _
              refine XS.iloadN X0.here hx rfl (hb hby d3_70) rfl ?_
              show Steps p.tables e below (s₁.setTop (mkF m 71 #[.val (.int p1), .val (.int p1), .val (.int (0 : Int32)), .val (.int (0 : Int32)), .val (.int (1 : Int32)), .val (.int (1 : Int32))] [(.int (0 : Int32))])) _
              refine XS.ifNo X0.here hx rfl (hb hby d3_71) rfl ((if0 _ _).trans (teq (by decide : (0 : Int32) = (0 : Int32))).2) ?_
              show Steps p.tables e below (s₁.setTop (mkF m 74 #[.val (.int p1), .val (.int p1), .val (.int (0 : Int32)), .val (.int (0 : Int32)), .val (.int (1 : Int32)), .val (.int (1 : Int32))] [])) _
              refine XS.iload X0.here hx rfl (hb hby d3_74) rfl ?_
              show Steps p.tables e below (s₁.setTop (mkF m 76 #[.val (.int p1), .val (.int p1), .val (.int (0 : Int32)), .val (.int (0 : Int32)), .val (.int (1 : Int32)), .val (.int (1 : Int32))] [(.int (1 : Int32))])) _
              refine XS.ifYes X0.here hx rfl (pc0 := 76) (pc' := 84) rfl (hb hby d3_76) rfl ((if0 _ _).trans (feq (by decide : ¬ ((1 : Int32) = (0 : Int32)))).2) (by decide) (by decide) ?_
              show Steps p.tables e below (s₁.setTop (mkF m 84 #[.val (.int p1), .val (.int p1), .val (.int (0 : Int32)), .val (.int (0 : Int32)), .val (.int (1 : Int32)), .val (.int (1 : Int32))] [])) _
              refine XS.iconst X0.here hx rfl (hb hby d3_84) ?_
              show Steps p.tables e below (s₁.setTop (mkF m 85 #[.val (.int p1), .val (.int p1), .val (.int (0 : Int32)), .val (.int (0 : Int32)), .val (.int (1 : Int32)), .val (.int (1 : Int32))] [(.int (1 : Int32))])) _
              refine XS.goto X0.here hx rfl (pc0 := 85) (pc' := 89) rfl (hb hby d3_85) (by decide) (by decide) ?_
              show Steps p.tables e below (s₁.setTop (mkF m 89 #[.val (.int p1), .val (.int p1), .val (.int (0 : Int32)), .val (.int (0 : Int32)), .val (.int (1 : Int32)), .val (.int (1 : Int32))] [(.int (1 : Int32))])) _
              exact kt
            obtain ⟨fs, hr, hrun, hended, hW, hsame⟩ := X0.leave (v := some (.int (1 : Int32))) (fun h => by rw [Bd.returns] at h; cases h)
            refine ⟨_, _, fin _ (pre21 _ ?_), hrun, hended, _, _, rfl, ?_, ⟨_, rfl⟩, hW, hsame.mono (by decide) (by decide)⟩
            · exact retN X0 hx (t := .boolean) Bd.returns (by simp) (hb hby d3_89) hr
            · show Q3 Z p1 h0 n0 _ s₁.heap _
              rw [e0]
              exact ⟨(by show some _ = some _; rw [own_exp, if_pos hc1, if_neg hc3, if_pos hc15, if_pos hc17, if_pos hc19]), N0, rfl⟩
          · have pre22 : own_Go p e below S0 (s₁.setTop (mkF m 89 #[.val (.int p1), .val (.int p1), .val (.int (0 : Int32)), .val (.int (0 : Int32)), .val (.int (1 : Int32)), .val (.int (0 : Int32))] [(.int (1 : Int32))])) := by
              intro t kt
              refine pre20 t ?_
              refine XS.icmpYes X0.here hx rfl (pc0 := 56) (pc' := 63) rfl (hb hby d3_56) rfl (feq hc19).2 (by decide) (by decide) ?_
              show Steps p.tables e below (s₁.setTop (mkF m 63 #[.val (.int p1), .val (.int p1), .val (.int (0 : Int32)), .val (.int (0 : Int32)), .val (.int (1 : Int32)), .unset] [])) _
              refine XS.iconst X0.here hx rfl (hb hby d3_63) ?_
              show Steps p.tables e below (s₁.setTop (mkF m 64 #[.val (.int p1), .val (.int p1), .val (.int (0 : Int32)), .val (.int (0 : Int32)), .val (.int (1 : Int32)), .unset] [(.int (0 : Int32))])) _
              refine XS.istore X0.here hx rfl (hb hby d3_64) rfl (l' := #[.val (.int p1), .val (.int p1), .val (.int (0 : Int32)), .val (.int (0 : Int32)), .val (.int (1 : Int32)), .val (.int (0 : Int32))]) rfl ?_
              show Steps p.tables e below (s₁.setTop (mkF m 66 #[.val (.int p1), .val (.int p1), .val (.int (0 : Int32)), .val (.int (0 : Int32)), .val (.int (1 : Int32)), .val (.int (0 : Int32))] [])) _
              refine XS.iloadN X0.here hx rfl (hb hby d3_66) rfl ?_
              show Steps p.tables e below (s₁.setTop (mkF m 67 #[.val (.int p1), .val (.int p1), .val (.int (0 : Int32)), .val (.int (0 : Int32)), .val (.int (1 : Int32)), .val (.int (0 : Int32))] [(.int (0 : Int32))])) _
              refine XS.ifNo X0.here hx rfl (hb hby d3_67) rfl ((if0 _ _).trans (teq (by decide : (0 : Int32) = (0 : Int32))).2) ?_
              show Steps p.tables e below (s₁.setTop (mkF m 70 #[.val (.int p1), .val (.int p1), .val (.int (0 : Int32)), .val (.int (0 : Int32)), .val (.int (1 : Int32)), .val (.int (0 : Int32))] [])) _
              refine XS.iloadN X0.here hx rfl (hb hby d3_70) rfl ?_
              show Steps p.tables e below (s₁.setTop (mkF m 71 #[.val (.int p1), .val (.int p1), .val (.int (0 : Int32)), .val (.int (0 : Int32)), .val (.int (1 : Int32)), .val (.int (0 : Int32))] [(.int (0 : Int32))])) _
              refine XS.ifNo X0.here hx rfl (hb hby d3_71) rfl ((if0 _ _).trans (teq (by decide : (0 : Int32) = (0 : Int32))).2) ?_
              show Steps p.tables e below (s₁.setTop (mkF m 74 #[.val (.int p1), .val (.int p1), .val (.int (0 : Int32)), .val (.int (0 : Int32)), .val (.int (1 : Int32)), .val (.int (0 : Int32))] [])) _
              refine XS.iload X0.here hx rfl (hb hby d3_74) rfl ?_
              show Steps p.tables e below (s₁.setTop (mkF m 76 #[.val (.int p1), .val (.int p1), .val (.int (0 : Int32)), .val (.int (0 : Int32)), .val (.int (1 : Int32)), .val (.int (0 : Int32))] [(.int (1 : Int32))])) _
              refine XS.ifYes X0.here hx rfl (pc0 := 76) (pc' := 84) rfl (hb hby d3_76) rfl ((if0 _ _).trans (feq (by decide : ¬ ((1 : Int32) = (0 : Int32)))).2) (by decide) (by decide) ?_
              show Steps p.tables e below (s₁.setTop (mkF m 84 #[.val (.int p1), .val (.int p1), .val (.int (0 : Int32)), .val (.int (0 : Int32)), .val (.int (1 : Int32)), .val (.int (0 : Int32))] [])) _
              refine XS.iconst X0.here hx rfl (hb hby d3_84) ?_
              show Steps p.tables e below (s₁.setTop (mkF m 85 #[.val (.int p1), .val (.int p1), .val (.int (0 : Int32)), .val (.int (0 : Int32)), .val (.int (1 : Int32)), .val (.int (0 : Int32))] [(.int (1 : Int32))])) _
              refine XS.goto X0.here hx rfl (pc0 := 85) (pc' := 89) rfl (hb hby d3_85) (by decide) (by decide) ?_
              show Steps p.tables e below (s₁.setTop (mkF m 89 #[.val (.int p1), .val (.int p1), .val (.int (0 : Int32)), .val (.int (0 : Int32)), .val (.int (1 : Int32)), .val (.int (0 : Int32))] [(.int (1 : Int32))])) _
              exact kt
            obtain ⟨fs, hr, hrun, hended, hW, hsame⟩ := X0.leave (v := some (.int (1 : Int32))) (fun h => by rw [Bd.returns] at h; cases h)
            refine ⟨_, _, fin _ (pre22 _ ?_), hrun, hended, _, _, rfl, ?_, ⟨_, rfl⟩, hW, hsame.mono (by decide) (by decide)⟩
            · exact retN X0 hx (t := .boolean) Bd.returns (by simp) (hb hby d3_89) hr
            · show Q3 Z p1 h0 n0 _ s₁.heap _
              rw [e0]
              exact ⟨(by show some _ = some _; rw [own_exp, if_pos hc1, if_neg hc3, if_pos hc15, if_pos hc17, if_neg hc19]), N0, rfl⟩
        · have pre24 : own_Go p e below S0 (s₁.setTop (mkF m 56 #[.val (.int p1), .val (.int p1), .val (.int (0 : Int32)), .val (.int (0 : Int32)), .val (.int (0 : Int32)), .unset] [(.int (8233 : Int32)), (.int p1)])) := by
            intro t kt
            refine pre18 t ?_
            refine XS.icmpYes X0.here hx rfl (pc0 := 42) (pc' := 49) rfl (hb hby d3_42) rfl (feq hc17).2 (by decide) (by decide) ?_
            show Steps p.tables e below (s₁.setTop (mkF m 49 #[.val (.int p1), .val (.int p1), .val (.int (0 : Int32)), .val (.int (0 : Int32)), .unset, .unset] [])) _
            refine XS.iconst X0.here hx rfl (hb hby d3_49) ?_
            show Steps p.tables e below (s₁.setTop (mkF m 50 #[.val (.int p1), .val (.int p1), .val (.int (0 : Int32)), .val (.int (0 : Int32)), .unset, .unset] [(.int (0 : Int32))])) _
            refine XS.istore X0.here hx rfl (hb hby d3_50) rfl (l' := #[.val (.int p1), .val (.int p1), .val (.int (0 : Int32)), .val (.int (0 : Int32)), .val (.int (0 : Int32)), .unset]) rfl ?_
            show Steps p.tables e below (s₁.setTop (mkF m 52 #[.val (.int p1), .val (.int p1), .val (.int (0 : Int32)), .val (.int (0 : Int32)), .val (.int (0 : Int32)), .unset] [])) _
            refine XS.iloadN X0.here hx rfl (hb hby d3_52) rfl ?_
            show Steps p.tables e below (s₁.setTop (mkF m 53 #[.val (.int p1), .val (.int p1), .val (.int (0 : Int32)), .val (.int (0 : Int32)), .val (.int (0 : Int32)), .unset] [(.int p1)])) _
            refine XS.sipush X0.here hx rfl (hb hby d3_53) ?_
            show Steps p.tables e below (s₁.setTop (mkF m 56 #[.val (.int p1), .val (.int p1), .val (.int (0 : Int32)), .val (.int (0 : Int32)), .val (.int (0 : Int32)), .unset] [(.int (8233 : Int32)), (.int p1)])) _
            exact kt
          by_cases hc23 : p1 = (8233 : Int32)
          · have pre25 : own_Go p e below S0 (s₁.setTop (mkF m 89 #[.val (.int p1), .val (.int p1), .val (.int (0 : Int32)), .val (.int (0 : Int32)), .val (.int (0 : Int32)), .val (.int (1 : Int32))] [(.int (1 : Int32))])) := by
              intro t kt
              refine pre24 t ?_
              refine XS.icmpNo X0.here hx rfl (hb hby d3_56) rfl (teq hc23).2 ?_
              show Steps p.tables e below (s₁.setTop (mkF m 59 #[.val (.int p1), .val (.int p1), .val (.int (0 : Int32)), .val (.int (0 : Int32)), .val (.int (0 : Int32)), .unset] [])) _
              refine XS.iconst X0.here hx rfl (hb hby d3_59) ?_
              show Steps p.tables e below (s₁.setTop (mkF m 60 #[.val (.int p1), .val (.int p1), .val (.int (0 : Int32)), .val (.int (0 : Int32)), .val (.int (0 : Int32)), .unset] [(.int (1 : Int32))])) _
              refine XS.goto X0.here hx rfl (pc0 := 60) (pc' := 64) rfl (hb hby d3_60) (by decide) (by decide) ?_
              show Steps p.tables e below (s₁.setTop (mkF m 64 #[.val (.int p1), .val (.int p1), .val (.int (0 : Int32)), .val (.int (0 : Int32)), .val (.int (0 : Int32)), .unset] [(.int (1 : Int32))])) _
              refine XS.istore X0.here hx rfl (hb hby d3_64) rfl (l' := #[.val (.int p1), .val (.int p1), .val (.int (0 : Int32)), .val (.int (0 : Int32)), .val (.int (0 : Int32)), .val (.int (1 : Int32))]) rfl ?_
              show Steps p.tables e below (s₁.setTop (mkF m 66 #[.val (.int p1), .val (.int p1), .val (.int (0 : Int32)), .val (.int (0 : Int32)), .val (.int (0 : Int32)), .val (.int (1 : Int32))] [])) _
              refine XS.iloadN X0.here hx rfl (hb hby d3_66) rfl ?_
              show Steps p.tables e below (s₁.setTop (mkF m 67 #[.val (.int p1), .val (.int p1), .val (.int (0 : Int32)), .val (.int (0 : Int32)), .val (.int (0 : Int32)), .val (.int (1 : Int32))] [(.int (0 : Int32))])) _
              refine XS.ifNo X0.here hx rfl (hb hby d3_67) rfl ((if0 _ _).trans (teq (by decide : (0 : Int32) = (0 : Int32))).2) ?_
              show Steps p.tables e below (s₁.setTop (mkF m 70 #[.val (.int p1), .val (.int p1), .val (.int (0 : Int32)), .val (.int (0 : Int32)), .val (.int (0 : Int32)), .val (.int (1 : Int32))] [])) _
              refine XS.iloadN X0.here hx rfl (hb hby d3_70) rfl ?_
              show Steps p.tables e below (s₁.setTop (mkF m 71 #[.val (.int p1), .val (.int p1), .val (.int (0 : Int32)), .val (.int (0 : Int32)), .val (.int (0 : Int32)), .val (.int (1 : Int32))] [(.int (0 : Int32))])) _
              refine XS.ifNo X0.here hx rfl (hb hby d3_71) rfl ((if0 _ _).trans (teq (by decide : (0 : Int32) = (0 : Int32))).2) ?_
              show Steps p.tables e below (s₁.setTop (mkF m 74 #[.val (.int p1), .val (.int p1), .val (.int (0 : Int32)), .val (.int (0 : Int32)), .val (.int (0 : Int32)), .val (.int (1 : Int32))] [])) _
              refine XS.iload X0.here hx rfl (hb hby d3_74) rfl ?_
              show Steps p.tables e below (s₁.setTop (mkF m 76 #[.val (.int p1), .val (.int p1), .val (.int (0 : Int32)), .val (.int (0 : Int32)), .val (.int (0 : Int32)), .val (.int (1 : Int32))] [(.int (0 : Int32))])) _
              refine XS.ifNo X0.here hx rfl (hb hby d3_76) rfl ((if0 _ _).trans (teq (by decide : (0 : Int32) = (0 : Int32))).2) ?_
              show Steps p.tables e below (s₁.setTop (mkF m 79 #[.val (.int p1), .val (.int p1), .val (.int (0 : Int32)), .val (.int (0 : Int32)), .val (.int (0 : Int32)), .val (.int (1 : Int32))] [])) _
              refine XS.iload X0.here hx rfl (hb hby d3_79) rfl ?_
              show Steps p.tables e below (s₁.setTop (mkF m 81 #[.val (.int p1), .val (.int p1), .val (.int (0 : Int32)), .val (.int (0 : Int32)), .val (.int (0 : Int32)), .val (.int (1 : Int32))] [(.int (1 : Int32))])) _
              refine XS.ifNo X0.here hx rfl (hb hby d3_81) rfl ((if0 _ _).trans (feq (by decide : ¬ ((1 : Int32) = (0 : Int32)))).1) ?_
              show Steps p.tables e below (s₁.setTop (mkF m 84 #[.val (.int p1), .val (.int p1), .val (.int (0 : Int32)), .val (.int (0 : Int32)), .val (.int (0 : Int32)), .val (.int (1 : Int32))] [])) _
              refine XS.iconst X0.here hx rfl (hb hby d3_84) ?_
              show Steps p.tables e below (s₁.setTop (mkF m 85 #[.val (.int p1), .val (.int p1), .val (.int (0 : Int32)), .val (.int (0 : Int32)), .val (.int (0 : Int32)), .val (.int (1 : Int32))] [(.int (1 : Int32))])) _
              refine XS.goto X0.here hx rfl (pc0 := 85) (pc' := 89) rfl (hb hby d3_85) (by decide) (by decide) ?_
              show Steps p.tables e below (s₁.setTop (mkF m 89 #[.val (.int p1), .val (.int p1), .val (.int (0 : Int32)), .val (.int (0 : Int32)), .val (.int (0 : Int32)), .val (.int (1 : Int32))] [(.int (1 : Int32))])) _
              exact kt
            obtain ⟨fs, hr, hrun, hended, hW, hsame⟩ := X0.leave (v := some (.int (1 : Int32))) (fun h => by rw [Bd.returns] at h; cases h)
            refine ⟨_, _, fin _ (pre25 _ ?_), hrun, hended, _, _, rfl, ?_, ⟨_, rfl⟩, hW, hsame.mono (by decide) (by decide)⟩
            · exact retN X0 hx (t := .boolean) Bd.returns (by simp) (hb hby d3_89) hr
            · show Q3 Z p1 h0 n0 _ s₁.heap _
              rw [e0]
              exact ⟨(by show some _ = some _; rw [own_exp, if_pos hc1, if_neg hc3, if_pos hc15, if_neg hc17, if_pos hc23]), N0, rfl⟩
          · have pre26 : own_Go p e below S0 (s₁.setTop (mkF m 89 #[.val (.int p1), .val (.int p1), .val (.int (0 : Int32)), .val (.int (0 : Int32)), .val (.int (0 : Int32)), .val (.int (0 : Int32))] [(.int (0 : Int32))])) := by
              intro t kt
              refine pre24 t ?_
              refine XS.icmpYes X0.here hx rfl (pc0 := 56) (pc' := 63) rfl (hb hby d3_56) rfl (feq hc23).2 (by decide) (by decide) ?_
              show Steps p.tables e below (s₁.setTop (mkF m 63 #[.val (.int p1), .val (.int p1), .val (.int (0 : Int32)), .val (.int (0 : Int32)), .val (.int (0 : Int32)), .unset] [])) _
              refine XS.iconst X0.here hx rfl (hb hby d3_63) ?_
              show Steps p.tables e below (s₁.setTop (mkF m 64 #[.val (.int p1), .val (.int p1), .val (.int (0 : Int32)), .val (.int (0 : Int32)), .val (.int (0 : Int32)), .unset] [(.int (0 : Int32))])) _
              refine XS.istore X0.here hx rfl (hb hby d3_64) rfl (l' := #[.val (.int p1), .val (.int p1), .val (.int (0 : Int32)), .val (.int (0 : Int32)), .val (.int (0 : Int32)), .val (.int (0 : Int32))]) rfl ?_
              show Steps p.tables e below (s₁.setTop (mkF m 66 #[.val (.int p1), .val (.int p1), .val (.int (0 : Int32)), .val (.int (0 : Int32)), .val (.int (0 : Int32)), .val (.int (0 : Int32))] [])) _
              refine XS.iloadN X0.here hx rfl (hb hby d3_66) rfl ?_
              show Steps p.tables e below (s₁.setTop (mkF m 67 #[.val (.int p1), .val (.int p1), .val (.int (0 : Int32)), .val (.int (0 : Int32)), .val (.int (0 : Int32)), .val (.int (0 : Int32))] [(.int (0 : Int32))])) _
              refine XS.ifNo X0.here hx rfl (hb hby d3_67) rfl ((if0 _ _).trans (teq (by decide : (0 : Int32) = (0 : Int32))).2) ?_
              show Steps p.tables e below (s₁.setTop (mkF m 70 #[.val (.int p1), .val (.int p1), .val (.int (0 : Int32)), .val (.int (0 : Int32)), .val (.int (0 : Int32)), .val (.int (0 : Int32))] [])) _
              refine XS.iloadN X0.here hx rfl (hb hby d3_70) rfl ?_
              show Steps p.tables e below (s₁.setTop (mkF m 71 #[.val (.int p1), .val (.int p1), .val (.int (0 : Int32)), .val (.int (0 : Int32)), .val (.int (0 : Int32)), .val (.int (0 : Int32))] [(.int (0 : Int32))])) _
              refine XS.ifNo X0.here hx rfl (hb hby d3_71) rfl ((if0 _ _).trans (teq (by decide : (0 : Int32) = (0 : Int32))).2) ?_
              show Steps p.tables e below (s₁.setTop (mkF m 74 #[.val (.int p1), .val (.int p1), .val (.int (0 : Int32)), .val (.int (0 : Int32)), .val (.int (0 : Int32)), .val (.int (0 : Int32))] [])) _
              refine XS.iload X0.here hx rfl (hb hby d3_74) rfl ?_
              show Steps p.tables e below (s₁.setTop (mkF m 76 #[.val (.int p1), .val (.int p1), .val (.int (0 : Int32)), .val (.int (0 : Int32)), .val (.int (0 : Int32)), .val (.int (0 : Int32))] [(.int (0 : Int32))])) _
              refine XS.ifNo X0.here hx rfl (hb hby d3_76) rfl ((if0 _ _).trans (teq (by decide : (0 : Int32) = (0 : Int32))).2) ?_
              show Steps p.tables e below (s₁.setTop (mkF m 79 #[.val (.int p1), .val (.int p1), .val (.int (0 : Int32)), .val (.int (0 : Int32)), .val (.int (0 : Int32)), .val (.int (0 : Int32))] [])) _
              refine XS.iload X0.here hx rfl (hb hby d3_79) rfl ?_
              show Steps p.tables e below (s₁.setTop (mkF m 81 #[.val (.int p1), .val (.int p1), .val (.int (0 : Int32)), .val (.int (0 : Int32)), .val (.int (0 : Int32)), .val (.int (0 : Int32))] [(.int (0 : Int32))])) _
              refine XS.ifYes X0.here hx rfl (pc0 := 81) (pc' := 88) rfl (hb hby d3_81) rfl ((if0 _ _).trans (teq (by decide : (0 : Int32) = (0 : Int32))).1) (by decide) (by decide) ?_
              show Steps p.tables e below (s₁.setTop (mkF m 88 #[.val (.int p1), .val (.int p1), .val (.int (0 : Int32)), .val (.int (0 : Int32)), .val (.int (0 : Int32)), .val (.int (0 : Int32))] [])) _
              refine XS.iconst X0.here hx rfl (hb hby d3_88) ?_
              show Steps p.tables e below (s₁.setTop (mkF m 89 #[.val (.int p1), .val (.int p1), .val (.int (0 : Int32)), .val (.int (0 : Int32)), .val (.int (0 : Int32)), .val (.int (0 : Int32))] [(.int (0 : Int32))])) _
              exact kt
            obtain ⟨fs, hr, hrun, hended, hW, hsame⟩ := X0.leave (v := some (.int (0 : Int32))) (fun h => by rw [Bd.returns] at h; cases h)
            refine ⟨_, _, fin _ (pre26 _ ?_), hrun, hended, _, _, rfl, ?_, ⟨_, rfl⟩, hW, hsame.mono (by decide) (by decide)⟩
            · exact retN X0 hx (t := .boolean) Bd.returns (by simp) (hb hby d3_89) hr
            · show Q3 Z p1 h0 n0 _ s₁.heap _
              rw [e0]
              exact ⟨(by show some _ = some _; rw [own_exp, if_pos hc1, if_neg hc3, if_pos hc15, if_neg hc17, if_neg hc23]), N0, rfl⟩
      · have pre28 : own_Go p e below S0 (s₁.setTop (mkF m 42 #[.val (.int p1), .val (.int p1), .val (.int (0 : Int32)), .val (.int (1 : Int32)), .unset, .unset] [(.int (8232 : Int32)), (.int p1)])) := by
          intro t kt
          refine pre16 t ?_
          refine XS.icmpNo X0.here hx rfl (hb hby d3_29) rfl (flt hc15).2.2.1 ?_
          show Steps p.tables e below (s₁.setTop (mkF m 32 #[.val (.int p1), .val (.int p1), .val (.int (0 : Int32)), .unset, .unset, .unset] [])) _
          refine XS.iconst X0.here hx rfl (hb hby d3_32) ?_
          show Steps p.tables e below (s₁.setTop (mkF m 33 #[.val (.int p1), .val (.int p1), .val (.int (0 : Int32)), .unset, .unset, .unset] [(.int (1 : Int32))])) _
          refine XS.goto X0.here hx rfl (pc0 := 33) (pc' := 37) rfl (hb hby d3_33) (by decide) (by decide) ?_
          show Steps p.tables e below (s₁.setTop (mkF m 37 #[.val (.int p1), .val (.int p1), .val (.int (0 : Int32)), .unset, .unset, .unset] [(.int (1 : Int32))])) _
          refine XS.istoreN X0.here hx rfl (hb hby d3_37) rfl (l' := #[.val (.int p1), .val (.int p1), .val (.int (0 : Int32)), .val (.int (1 : Int32)), .unset, .unset]) rfl ?_
          show Steps p.tables e below (s₁.setTop (mkF m 38 #[.val (.int p1), .val (.int p1), .val (.int (0 : Int32)), .val (.int (1 : Int32)), .unset, .unset] [])) _
          refine XS.iloadN X0.here hx rfl (hb hby d3_38) rfl ?_
          show Steps p.tables e below (s₁.setTop (mkF m 39 #[.val (.int p1), .val (.int p1), .val (.int (0 : Int32)), .val (.int (1 : Int32)), .unset, .unset] [(.int p1)])) _
          refine XS.sipush X0.here hx rfl (hb hby d3_39) ?_
          show Steps p.tables e below (s₁.setTop (mkF m 42 #[.val (.int p1), .val (.int p1), .val (.int (0 : Int32)), .val (.int (1 : Int32)), .unset, .unset] [(.int (8232 : Int32)), (.int p1)])) _
          exact kt
        by_cases hc27 : p1 = (8232 : Int32)
        · have pre30 : own_Go p e below S0 (s₁.setTop (mkF m 56 #[.val (.int p1), .val (.int p1), .val (.int (0 : Int32)), .val (.int (1 : Int32)), .val (.int (1 : Int32)), .unset] [(.int (8233 : Int32)), (.int p1)])) := by
            intro t kt
            refine pre28 t ?_
            refine XS.icmpNo X0.here hx rfl (hb hby d3_42) rfl (teq hc27).2 ?_
            show Steps p.tables e below (s₁.setTop (mkF m 45 #[.val (.int p1), .val (.int p1), .val (.int (0 : Int32)), .val (.int (1 : Int32)), .unset, .unset] [])) _
            refine XS.iconst X0.here hx rfl (hb hby d3_45) ?_
            show Steps p.tables e below (s₁.setTop (mkF m 46 #[.val (.int p1), .val (.int p1), .val (.int (0 : Int32)), .val (.int (1 : Int32)), .unset, .unset] [(.int (1 : Int32))])) _
            refine XS.goto X0.here hx rfl (pc0 := 46) (pc' := 50) rfl (hb hby d3_46) (by decide) (by decide) ?_
            show Steps p.tables e below (s₁.setTop (mkF m 50 #[.val (.int p1), .val (.int p1), .val (.int (0 : Int32)), .val (.int (1 : Int32)), .unset, .unset] [(.int (1 : Int32))])) _
            refine XS.istore X0.here hx rfl (hb hby d3_50) rfl (l' := #[.val (.int p1), .val (.int p1), .val (.int (0 : Int32)), .val (.int (1 : Int32)), .val (.int (1 : Int32)), .unset]) rfl ?_
            show Steps p.tables e below (s₁.setTop (mkF m 52 #[.val (.int p1), .val (.int p1), .val (.int (0 : Int32)), .val (.int (1 : Int32)), .val (.int (1 : Int32)), .unset] [])) _
            refine XS.iloadN X0.here hx rfl (hb hby d3_52) rfl ?_
            show Steps p.tables e below (s₁.setTop (mkF m 53 #[.val (.int p1), .val (.int p1), .val (.int (0 : Int32)), .val (.int (1 : Int32)), .val (.int (1 : Int32)), .unset] [(.int p1)])) _
            refine XS.sipush X0.here hx rfl (hb hby d3_53) ?_
            show Steps p.tables e below (s₁.setTop (mkF m 56 #[.val (.int p1), .val (.int p1), .val (.int (0 : Int32)), .val (.int (1 : Int32)), .val (.int (1 : Int32)), .unset] [(.int (8233 : Int32)), (.int p1)])) _
            exact kt
          by_cases hc29 : p1 = (8233 : Int32)
          · have pre31 : own_Go p e below S0 (s₁.setTop (mkF m 89 #[.val (.int p1), .val (.int p1), .val (.int (0 : Int32)), .val (.int (1 : Int32)), .val (.int (1 : Int32)), .val (.int (1 : Int32))] [(.int (1 : Int32))])) := by
              intro t kt
              refine pre30 t ?_
              refine XS.icmpNo X0.here hx rfl (hb hby d3_56) rfl (teq hc29).2 ?_
              show Steps p.tables e below (s₁.setTop (mkF m 59 #[.val (.int p1), .val (.int p1), .val (.int (0 : Int32)), .val (.int (1 : Int32)), .val (.int (1 : Int32)), .unset] [])) _
              refine XS.iconst X0.here hx rfl (hb hby d3_59) ?_
              show Steps p.tables e below (s₁.setTop (mkF m 60 #[.val (.int p1), .val (.int p1), .val (.int (0 : Int32)), .val (.int (1 : Int32)), .val (.int (1 : Int32)), .unset] [(.int (1 : Int32))])) _
              refine XS.goto X0.here hx rfl (pc0 := 60) (pc' := 64) rfl (hb hby d3_60) (by decide) (by decide) ?_
              show Steps p.tables e below (s₁.setTop (mkF m 64 #[.val (.int p1), .val (.int p1), .val (.int (0 : Int32)), .val (.int (1 : Int32)), .val (.int (1 : Int32)), .unset] [(.int (1 : Int32))])) _
              refine XS.istore X0.here hx rfl (hb hby d3_64) rfl (l' := #[.val (.int p1), .val (.int p1), .val (.int (0 : Int32)), .val (.int (1 : Int32)), .val (.int (1 : Int32)), .val (.int (1 : Int32))]) rfl ?_
              show Steps p.tables e below (s₁.setTop (mkF m 66 #[.val (.int p1), .val (.int p1), .val (.int (0 : Int32)), .val (.int (1 : Int32)), .val (.int (1 : Int32)), .val (.int (1 : Int32))] [])) _
              refine XS.iloadN X0.here hx rfl (hb hby d3_66) rfl ?_
              show Steps p.tables e below (s₁.setTop (mkF m 67 #[.val (.int p1), .val (.int p1), .val (.int (0 : Int32)), .val (.int (1 : Int32)), .val (.int (1 : Int32)), .val (.int (1 : Int32))] [(.int (0 : Int32))])) _
              refine XS.ifNo X0.here hx rfl (hb hby d3_67) rfl ((if0 _ _).trans (teq (by decide : (0 : Int32) = (0 : Int32))).2) ?_
              show Steps p.tables e below (s₁.setTop (mkF m 70 #[.val (.int p1), .val (.int p1), .val (.int (0 : Int32)), .val (.int (1 : Int32)), .val (.int (1 : Int32)), .val (.int (1 : Int32))] [])) _
              refine XS.iloadN X0.here hx rfl (hb hby d3_70) rfl ?_
              show Steps p.tables e below (s₁.setTop (mkF m 71 #[.val (.int p1), .val (.int p1), .val (.int (0 : Int32)), .val (.int (1 : Int32)), .val (.int (1 : Int32)), .val (.int (1 : Int32))] [(.int (1 : Int32))])) _
              refine XS.ifYes X0.here hx rfl (pc0 := 71) (pc' := 84) rfl (hb hby d3_71) rfl ((if0 _ _).trans (feq (by decide : ¬ ((1 : Int32) = (0 : Int32)))).2) (by decide) (by decide) ?_
              show Steps p.tables e below (s₁.setTop (mkF m 84 #[.val (.int p1), .val (.int p1), .val (.int (0 : Int32)), .val (.int (1 : Int32)), .val (.int (1 : Int32)), .val (.int (1 : Int32))] [])) _
              refine XS.iconst X0.here hx rfl (hb hby d3_84) ?_
              show Steps p.tables e below (s₁.setTop (mkF m 85 #[.val (.int p1), .val (.int p1), .val (.int (0 : Int32)), .val (.int (1 : Int32)), .val (.int (1 : Int32)), .val (.int (1 : Int32))] [(.int (1 : Int32))])) _
              refine XS.goto X0.here hx rfl (pc0 := 85) (pc' := 89) rfl (hb hby d3_85) (by decide) (by decide) ?_
              show Steps p.tables e below (s₁.setTop (mkF m 89 #[.val (.int p1), .val (.int p1), .val (.int (0 : Int32)), .val (.int (1 : Int32)), .val (.int (1 : Int32)), .val (.int (1 : Int32))] [(.int (1 : Int32))])) _
              exact kt
            obtain ⟨fs, hr, hrun, hended, hW, hsame⟩ := X0.leave (v := some (.int (1 : Int32))) (fun h => by rw [Bd.returns] at h; cases h)
            refine ⟨_, _, fin _ (pre31 _ ?_), hrun, hended, _, _, rfl, ?_, ⟨_, rfl⟩, hW, hsame.mono (by decide) (by decide)⟩
            · exact retN X0 hx (t := .boolean) Bd.returns (by simp) (hb hby d3_89) hr
            · show Q3 Z p1 h0 n0 _ s₁.heap _
              rw [e0]
              exact ⟨(by show some _ = some _; rw [own_exp, if_pos hc1, if_neg hc3, if_neg hc15, if_pos hc27, if_pos hc29]), N0, rfl⟩
          · have pre32 : own_Go p e below S0 (s₁.setTop (mkF m 89 #[.val (.int p1), .val (.int p1), .val (.int (0 : Int32)), .val (.int (1 : Int32)), .val (.int (1 : Int32)), .val (.int (0 : Int32))] [(.int (1 : Int32))])) := by
              intro t kt
              refine pre30 t ?_
              refine XS.icmpYes X0.here hx rfl (pc0 := 56) (pc' := 63) rfl (hb hby d3_56) rfl (feq hc29).2 (by decide) (by decide) ?_
              show Steps p.tables e below (s₁.setTop (mkF m 63 #[.val (.int p1), .val (.int p1), .val (.int (0 : Int32)), .val (.int (1 : Int32)), .val (.int (1 : Int32)), .unset] [])) _
              refine XS.iconst X0.here hx rfl (hb hby d3_63) ?_
              show Steps p.tables e below (s₁.setTop (mkF m 64 #[.val (.int p1), .val (.int p1), .val (.int (0 : Int32)), .val (.int (1 : Int32)), .val (.int (1 : Int32)), .unset] [(.int (0 : Int32))])) _
              refine XS.istore X0.here hx rfl (hb hby d3_64) rfl (l' := #[.val (.int p1), .val (.int p1), .val (.int (0 : Int32)), .val (.int (1 : Int32)), .val (.int (1 : Int32)), .val (.int (0 : Int32))]) rfl ?_
              show Steps p.tables e below (s₁.setTop (mkF m 66 #[.val (.int p1), .val (.int p1), .val (.int (0 : Int32)), .val (.int (1 : Int32)), .val (.int (1 : Int32)), .val (.int (0 : Int32))] [])) _
              refine XS.iloadN X0.here hx rfl (hb hby d3_66) rfl ?_
              show Steps p.tables e below (s₁.setTop (mkF m 67 #[.val (.int p1), .val (.int p1), .val (.int (0 : Int32)), .val (.int (1 : Int32)), .val (.int (1 : Int32)), .val (.int (0 : Int32))] [(.int (0 : Int32))])) _
              refine XS.ifNo X0.here hx rfl (hb hby d3_67) rfl ((if0 _ _).trans (teq (by decide : (0 : Int32) = (0 : Int32))).2) ?_
              show Steps p.tables e below (s₁.setTop (mkF m 70 #[.val (.int p1), .val (.int p1), .val (.int (0 : Int32)), .val (.int (1 : Int32)), .val (.int (1 : Int32)), .val (.int (0 : Int32))] [])) _
              refine XS.iloadN X0.here hx rfl (hb hby d3_70) rfl ?_
              show Steps p.tables e below (s₁.setTop (mkF m 71 #[.val (.int p1), .val (.int p1), .val (.int (0 : Int32)), .val (.int (1 : Int32)), .val (.int (1 : Int32)), .val (.int (0 : Int32))] [(.int (1 : Int32))])) _
              refine XS.ifYes X0.here hx rfl (pc0 := 71) (pc' := 84) rfl (hb hby d3_71) rfl ((if0 _ _).trans (feq (by decide : ¬ ((1 : Int32) = (0 : Int32)))).2) (by decide) (by decide) ?_
              show Steps p.tables e below (s₁.setTop (mkF m 84 #[.val (.int p1), .val (.int p1), .val (.int (0 : Int32)), .val (.int (1 : Int32)), .val (.int (1 : Int32)), .val (.int (0 : Int32))] [])) _
              refine XS.iconst X0.here hx rfl (hb hby d3_84) ?_
              show Steps p.tables e below (s₁.setTop (mkF m 85 #[.val (.int p1), .val (.int p1), .val (.int (0 : Int32)), .val (.int (1 : Int32)), .val (.int (1 : Int32)), .val (.int (0 : Int32))] [(.int (1 : Int32))])) _
              refine XS.goto X0.here hx rfl (pc0 := 85) (pc' := 89) rfl (hb hby d3_85) (by decide) (by decide) ?_
              show Steps p.tables e below (s₁.setTop (mkF m 89 #[.val (.int p1), .val (.int p1), .val (.int (0 : Int32)), .val (.int (1 : Int32)), .val (.int (1 : Int32)), .val (.int (0 : Int32))] [(.int (1 : Int32))])) _
              exact kt
            obtain ⟨fs, hr, hrun, hended, hW, hsame⟩ := X0.leave (v := some (.int (1 : Int32))) (fun h => by rw [Bd.returns] at h; cases h)
            refine ⟨_, _, fin _ (pre32 _ ?_), hrun, hended, _, _, rfl, ?_, ⟨_, rfl⟩, hW, hsame.mono (by decide) (by decide)⟩
            · exact retN X0 hx (t := .boolean) Bd.returns (by simp) (hb hby d3_89) hr
            · show Q3 Z p1 h0 n0 _ s₁.heap _
              rw [e0]
              exact ⟨(by show some _ = some _; rw [own_exp, if_pos hc1, if_neg hc3, if_neg hc15, if_pos hc27, if_neg hc29]), N0, rfl⟩
        · have pre34 : own_Go p e below S0 (s₁.setTop (mkF m 56 #[.val (.int p1), .val (.int p1), .val (.int (0 : Int32)), .val (.int (1 : Int32)), .val (.int (0 : Int32)), .unset] [(.int (8233 : Int32)), (.int p1)])) := by
            intro t kt
            refine pre28 t ?_
            refine XS.icmpYes X0.here hx rfl (pc0 := 42) (pc' := 49) rfl (hb hby d3_42) rfl (feq hc27).2 (by decide) (by decide) ?_
            show Steps p.tables e below (s₁.setTop (mkF m 49 #[.val (.int p1), .val (.int p1), .val (.int (0 : Int32)), .val (.int (1 : Int32)), .unset, .unset] [])) _
            refine XS.iconst X0.here hx rfl (hb hby d3_49) ?_
            show Steps p.tables e below (s₁.setTop (mkF m 50 #[.val (.int p1), .val (.int p1), .val (.int (0 : Int32)), .val (.int (1 : Int32)), .unset, .unset] [(.int (0 : Int32))])) _
            refine XS.istore X0.here hx rfl (hb hby d3_50) rfl (l' := #[.val (.int p1), .val (.int p1), .val (.int (0 : Int32)), .val (.int (1 : Int32)), .val (.int (0 : Int32)), .unset]) rfl ?_
            show Steps p.tables e below (s₁.setTop (mkF m 52 #[.val (.int p1), .val (.int p1), .val (.int (0 : Int32)), .val (.int (1 : Int32)), .val (.int (0 : Int32)), .unset] [])) _
            refine XS.iloadN X0.here hx rfl (hb hby d3_52) rfl ?_
            show Steps p.tables e below (s₁.setTop (mkF m 53 #[.val (.int p1), .val (.int p1), .val (.int (0 : Int32)), .val (.int (1 : Int32)), .val (.int (0 : Int32)), .unset] [(.int p1)])) _
            refine XS.sipush X0.here hx rfl (hb hby d3_53) ?_
            show Steps p.tables e below (s₁.setTop (mkF m 56 #[.val (.int p1), .val (.int p1), .val (.int (0 : Int32)), .val (.int (1 : Int32)), .val (.int (0 : Int32)), .unset] [(.int (8233 : Int32)), (.int p1)])) _
            exact kt
          by_cases hc33 : p1 = (8233 : Int32)
          · have pre35 : own_Go p e below S0 (s₁.setTop (mkF m 89 #[.val (.int p1), .val (.int p1), .val (.int (0 : Int32)), .val (.int (1 : Int32)), .val (.int (0 : Int32)), .val (.int (1 : Int32))] [(.int (1 : Int32))])) := by
              intro t kt
              refine pre34 t ?_
              refine XS.icmpNo X0.here hx rfl (hb hby d3_56) rfl (teq hc33).2 ?_
              show Steps p.tables e below (s₁.setTop (mkF m 59 #[.val (.int p1), .val (.int p1), .val (.int (0 : Int32)), .val (.int (1 : Int32)), .val (.int (0 : Int32)), .unset] [])) _
              refine XS.iconst X0.here hx rfl (hb hby d3_59) ?_
              show Steps p.tables e below (s₁.setTop (mkF m 60 #[.val (.int p1), .val (.int p1), .val (.int (0 : Int32)), .val (.int (1 : Int32)), .val (.int (0 : Int32)), .unset] [(.int (1 : Int32))])) _
              refine XS.goto X0.here hx rfl (pc0 := 60) (pc' := 64) rfl (hb hby d3_60) (by decide) (by decide) ?_
              show Steps p.tables e below (s₁.setTop (mkF m 64 #[.val (.int p1), .val (.int p1), .val (.int (0 : Int32)), .val (.int (1 : Int32)), .val (.int (0 : Int32)), .unset] [(.int (1 : Int32))])) _
              refine XS.istore X0.here hx rfl (hb hby d3_64) rfl (l' := #[.val (.int p1), .val (.int p1), .val (.int (0 : Int32)), .val (.int (1 : Int32)), .val (.int (0 : Int32)), .val (.int (1 : Int32))]) rfl ?_
              show Steps p.tables e below (s₁.setTop (mkF m 66 #[.val (.int p1), .val (.int p1), .val (.int (0 : Int32)), .val (.int (1 : Int32)), .val (.int (0 : Int32)), .val (.int (1 : Int32))] [])) _
              refine XS.iloadN X0.here hx rfl (hb hby d3_66) rfl ?_
              show Steps p.tables e below (s₁.setTop (mkF m 67 #[.val (.int p1), .val (.int p1), .val (.int (0 : Int32)), .val (.int (1 : Int32)), .val (.int (0 : Int32)), .val (.int (1 : Int32))] [(.int (0 : Int32))])) _
              refine XS.ifNo X0.here hx rfl (hb hby d3_67) rfl ((if0 _ _).trans (teq (by decide : (0 : Int32) = (0 : Int32))).2) ?_
              show Steps p.tables e below (s₁.setTop (mkF m 70 #[.val (.int p1), .val (.int p1), .val (.int (0 : Int32)), .val (.int (1 : Int32)), .val (.int (0 : Int32)), .val (.int (1 : Int32))] [])) _
              refine XS.iloadN X0.here hx rfl (hb hby d3_70) rfl ?_
              show Steps p.tables e below (s₁.setTop (mkF m 71 #[.val (.int p1), .val (.int p1), .val (.int (0 : Int32)), .val (.int (1 : Int32)), .val (.int (0 : Int32)), .val (.int (1 : Int32))] [(.int (1 : Int32))])) _
              refine XS.ifYes X0.here hx rfl (pc0 := 71) (pc' := 84) rfl (hb hby d3_71) rfl ((if0 _ _).trans (feq (by decide : ¬ ((1 : Int32) = (0 : Int32)))).2) (by decide) (by decide) ?_
              show Steps p.tables e below (s₁.setTop (mkF m 84 #[.val (.int p1), .val (.int p1), .val (.int (0 : Int32)), .val (.int (1 : Int32)), .val (.int (0 : Int32)), .val (.int (1 : Int32))] [])) _
              refine XS.iconst X0.here hx rfl (hb hby d3_84) ?_
              show Steps p.tables e below (s₁.setTop (mkF m 85 #[.val (.int p1), .val (.int p1), .val (.int (0 : Int32)), .val (.int (1 : Int32)), .val (.int (0 : Int32)), .val (.int (1 : Int32))] [(.int (1 : Int32))])) _
              refine XS.goto X0.here hx rfl (pc0 := 85) (pc' := 89) rfl (hb hby d3_85) (by decide) (by decide) ?_
              show Steps p.tables e below (s₁.setTop (mkF m 89 #[.val (.int p1), .val (.int p1), .val (.int (0 : Int32)), .val (.int (1 : Int32)), .val (.int (0 : Int32)), .val (.int (1 : Int32))] [(.int (1 : Int32))])) _
              exact kt
            obtain ⟨fs, hr, hrun, hended, hW, hsame⟩ := X0.leave (v := some (.int (1 : Int32))) (fun h => by rw [Bd.returns] at h; cases h)
            refine ⟨_, _, fin _ (pre35 _ ?_), hrun, hended, _, _, rfl, ?_, ⟨_, rfl⟩, hW, hsame.mono (by decide) (by decide)⟩
            · exact retN X0 hx (t := .boolean) Bd.returns (by simp) (hb hby d3_89) hr
            · show Q3 Z p1 h0 n0 _ s₁.heap _
              rw [e0]
              exact ⟨(by show some _ = some _; rw [own_exp, if_pos hc1, if_neg hc3, if_neg hc15, if_neg hc27, if_pos hc33]), N0, rfl⟩
          · have pre36 : own_Go p e below S0 (s₁.setTop (mkF m 89 #[.val (.int p1), .val (.int p1), .val (.int (0 : Int32)), .val (.int (1 : Int32)), .val (.int (0 : Int32)), .val (.int (0 : Int32))] [(.int (1 : Int32))])) := by
              intro t kt
              refine pre34 t ?_
              refine XS.icmpYes X0.here hx rfl (pc0 := 56) (pc' := 63) rfl (hb hby d3_56) rfl (feq hc33).2 (by decide) (by decide) ?_
              show Steps p.tables e below (s₁.setTop (mkF m 63 #[.val (.int p1), .val (.int p1), .val (.int (0 : Int32)), .val (.int (1 : Int32)), .val (.int (0 : Int32)), .unset] [])) _
              refine XS.iconst X0.here hx rfl (hb hby d3_63) ?_
              show Steps p.tables e below (s₁.setTop (mkF m 64 #[.val (.int p1), .val (.int p1), .val (.int (0 : Int32)), .val (.int (1 : Int32)), .val (.int (0 : Int32)), .unset] [(.int (0 : Int32))])) _
              refine XS.istore X0.here hx rfl (hb hby d3_64) rfl (l' := #[.val (.int p1), .val (.int p1), .val (.int (0 : Int32)), .val (.int (1 : Int32)), .val (.int (0 : Int32)), .val (.int (0 : Int32))]) rfl ?_
              show Steps p.tables e below (s₁.setTop (mkF m 66 #[.val (.int p1), .val (.int p1), .val (.int (0 : Int32)), .val (.int (1 : Int32)), .val (.int (0 : Int32)), .val (.int (0 : Int32))] [])) _
              refine XS.iloadN X0.here hx rfl (hb hby d3_66) rfl ?_
              show Steps p.tables e below (s₁.setTop (mkF m 67 #[.val (.int p1), .val (.int p1), .val (.int (0 : Int32)), .val (.int (1 : Int32)), .val (.int (0 : Int32)), .val (.int (0 : Int32))] [(.int (0 : Int32))])) _
              refine XS.ifNo X0.here hx rfl (hb hby d3_67) rfl ((if0 _ _).trans (teq (by decide : (0 : Int32) = (0 : Int32))).2) ?_
              show Steps p.tables e below (s₁.setTop (mkF m 70 #[.val (.int p1), .val (.int p1), .val (.int (0 : Int32)), .val (.int (1 : Int32)), .val (.int (0 : Int32)), .val (.int (0 : Int32))] [])) _
              refine XS.iloadN X0.here hx rfl (hb hby d3_70) rfl ?_
              show Steps p.tables e below (s₁.setTop (mkF m 71 #[.val (.int p1), .val (.int p1), .val (.int (0 : Int32)), .val (.int (1 : Int32)), .val (.int (0 : Int32)), .val (.int (0 : Int32))] [(.int (1 : Int32))])) _
              refine XS.ifYes X0.here hx rfl (pc0 := 71) (pc' := 84) rfl (hb hby d3_71) rfl ((if0 _ _).trans (feq (by decide : ¬ ((1 : Int32) = (0 : Int32)))).2) (by decide) (by decide) ?_
              show Steps p.tables e below (s₁.setTop (mkF m 84 #[.val (.int p1), .val (.int p1), .val (.int (0 : Int32)), .val (.int (1 : Int32)), .val (.int (0 : Int32)), .val (.int (0 : Int32))] [])) _
              refine XS.iconst X0.here hx rfl (hb hby d3_84) ?_
              show Steps p.tables e below (s₁.setTop (mkF m 85 #[.val (.int p1), .val (.int p1), .val (.int (0 : Int32)), .val (.int (1 : Int32)), .val (.int (0 : Int32)), .val (.int (0 : Int32))] [(.int (1 : Int32))])) _
              refine XS.goto X0.here hx rfl (pc0 := 85) (pc' := 89) rfl (hb hby d3_85) (by decide) (by decide) ?_
              show Steps p.tables e below (s₁.setTop (mkF m 89 #[.val (.int p1), .val (.int p1), .val (.int (0 : Int32)), .val (.int (1 : Int32)), .val (.int (0 : Int32)), .val (.int (0 : Int32))] [(.int (1 : Int32))])) _
              exact kt
            obtain ⟨fs, hr, hrun, hended, hW, hsame⟩ := X0.leave (v := some (.int (1 : Int32))) (fun h => by rw [Bd.returns] at h; cases h)
            refine ⟨_, _, fin _ (pre36 _ ?_), hrun, hended, _, _, rfl, ?_, ⟨_, rfl⟩, hW, hsame.mono (by decide) (by decide)⟩
            · exact retN X0 hx (t := .boolean) Bd.returns (by simp) (hb hby d3_89) hr
            · show Q3 Z p1 h0 n0 _ s₁.heap _
              rw [e0]
              exact ⟨(by show some _ = some _; rw [own_exp, if_pos hc1, if_neg hc3, if_neg hc15, if_neg hc27, if_neg hc33]), N0, rfl⟩
  · have pre38 : own_Go p e below S0 (s₁.setTop (mkF m 10 #[.val (.int p1), .val (.int p1), .unset, .unset, .unset, .unset] [(.int (31 : Int32)), (.int p1)])) := by
      intro t kt
      refine pre2 t ?_
      refine XS.icmpNo X0.here hx rfl (hb hby d3_4) rfl (flt hc1).2.2.1 ?_
      show Steps p.tables e below (s₁.setTop (mkF m 7 #[.val (.int p1), .val (.int p1), .unset, .unset, .unset, .unset] [])) _
      refine XS.iloadN X0.here hx rfl (hb hby d3_7) rfl ?_
      show Steps p.tables e below (s₁.setTop (mkF m 8 #[.val (.int p1), .val (.int p1), .unset, .unset, .unset, .unset] [(.int p1)])) _
      refine XS.bipush X0.here hx rfl (hb hby d3_8) ?_
      show Steps p.tables e below (s₁.setTop (mkF m 10 #[.val (.int p1), .val (.int p1), .unset, .unset, .unset, .unset] [(.int (31 : Int32)), (.int p1)])) _
      exact kt
    by_cases hc37 : (31 : Int32) < p1
    · have pre40 : own_Go p e below S0 (s₁.setTop (mkF m 22 #[.val (.int p1), .val (.int p1), .val (.int (0 : Int32)), .unset, .unset, .unset] [(.int p1), (.int (127 : Int32))])) := by
        intro t kt
        refine pre38 t ?_
        refine XS.icmpYes X0.here hx rfl (pc0 := 10) (pc' := 17) rfl (hb hby d3_10) rfl (tlt hc37).2.2.1 (by decide) (by decide) ?_
        show Steps p.tables e below (s₁.setTop (mkF m 17 #[.val (.int p1), .val (.int p1), .unset, .unset, .unset, .unset] [])) _
        refine XS.iconst X0.here hx rfl (hb hby d3_17) ?_
        show Steps p.tables e below (s₁.setTop (mkF m 18 #[.val (.int p1), .val (.int p1), .unset, .unset, .unset, .unset] [(.int (0 : Int32))])) _
        refine XS.istoreN X0.here hx rfl (hb hby d3_18) rfl (l' := #[.val (.int p1), .val (.int p1), .val (.int (0 : Int32)), .unset, .unset, .unset]) rfl ?_
        show Steps p.tables e below (s₁.setTop (mkF m 19 #[.val (.int p1), .val (.int p1), .val (.int (0 : Int32)), .unset, .unset, .unset] [])) _
        refine XS.bipush X0.here hx rfl (hb hby d3_19) ?_
        show Steps p.tables e below (s₁.setTop (mkF m 21 #[.val (.int p1), .val (.int p1), .val (.int (0 : Int32)), .unset, .unset, .unset] [(.int (127 : Int32))])) _
        refine XS.iloadN X0.here hx rfl (hb hby d3_21) rfl ?_
        show Steps p.tables e below (s₁.setTop (mkF m 22 #[.val (.int p1), .val (.int p1), .val (.int (0 : Int32)), .unset, .unset, .unset] [(.int p1), (.int (127 : Int32))])) _
        exact kt
      by_cases hc39 : p1 < (127 : Int32)
      · have pre42 : own_Go p e below S0 (s₁.setTop (mkF m 42 #[.val (.int p1), .val (.int p1), .val (.int (0 : Int32)), .val (.int (0 : Int32)), .unset, .unset] [(.int (8232 : Int32)), (.int p1)])) := by
          intro t kt
          refine pre40 t ?_
          refine XS.icmpYes X0.here hx rfl (pc0 := 22) (pc' := 36) rfl (hb hby d3_22) rfl (tlt hc39).2.2.1 (by decide) (by decide) ?_
          show Steps p.tables e below (s₁.setTop (mkF m 36 #[.val (.int p1), .val (.int p1), .val (.int (0 : Int32)), .unset, .unset, .unset] [])) _
          refine XS.iconst X0.here hx rfl (hb hby d3_36) ?_
          show Steps p.tables e below (s₁.setTop (mkF m 37 #[.val (.int p1), .val (.int p1), .val (.int (0 : Int32)), .unset, .unset, .unset] [(.int (0 : Int32))])) _
          refine XS.istoreN X0.here hx rfl (hb hby d3_37) rfl (l' := #[.val (.int p1), .val (.int p1), .val (.int (0 : Int32)), .val (.int (0 : Int32)), .unset, .unset]) rfl ?_
          show Steps p.tables e below (s₁.setTop (mkF m 38 #[.val (.int p1), .val (.int p1), .val (.int (0 : Int32)), .val (.int (0 : Int32)), .unset, .unset] [])) _
          refine XS.iloadN X0.here hx rfl (hb hby d3_38) rfl ?_
          show Steps p.tables e below (s₁.setTop (mkF m 39 #[.val (.int p1), .val (.int p1), .val (.int (0 : Int32)), .val (.int (0 : Int32)), .unset, .unset] [(.int p1)])) _
          refine XS.sipush X0.here hx rfl (hb hby d3_39) ?_
          show Steps p.tables e below (s₁.setTop (mkF m 42 #[.val (.int p1), .val (.int p1), .val (.int (0 : Int32)), .val (.int (0 : Int32)), .unset, .unset] [(.int (8232 : Int32)), (.int p1)])) _
          exact kt
        by_cases hc41 : p1 = (8232 : Int32)
        · have pre44 : own_Go p e below S0 (s₁.setTop (mkF m 56 #[.val (.int p1), .val (.int p1), .val (.int (0 : Int32)), .val (.int (0 : Int32)), .val (.int (1 : Int32)), .unset] [(.int (8233 : Int32)), (.int p1)])) := by
            intro t kt
            refine pre42 t ?_
            refine XS.icmpNo X0.here hx rfl (hb hby d3_42) rfl (teq hc41).2 ?_
            show Steps p.tables e below (s₁.setTop (mkF m 45 #[.val (.int p1), .val (.int p1), .val (.int (0 : Int32)), .val (.int (0 : Int32)), .unset, .unset] [])) _
            refine XS.iconst X0.here hx rfl (hb hby d3_45) ?_
            show Steps p.tables e below (s₁.setTop (mkF m 46 #[.val (.int p1), .val (.int p1), .val (.int (0 : Int32)), .val (.int (0 : Int32)), .unset, .unset] [(.int (1 : Int32))])) _
            refine XS.goto X0.here hx rfl (pc0 := 46) (pc' := 50) rfl (hb hby d3_46) (by decide) (by decide) ?_
            show Steps p.tables e below (s₁.setTop (mkF m 50 #[.val (.int p1), .val (.int p1), .val (.int (0 : Int32)), .val (.int (0 : Int32)), .unset, .unset] [(.int (1 : Int32))])) _
            refine XS.istore X0.here hx rfl (hb hby d3_50) rfl (l' := #[.val (.int p1), .val (.int p1), .val (.int (0 : Int32)), .val (.int (0 : Int32)), .val (.int (1 : Int32)), .unset]) rfl ?_
            show Steps p.tables e below (s₁.setTop (mkF m 52 #[.val (.int p1), .val (.int p1), .val (.int (0 : Int32)), .val (.int (0 : Int32)), .val (.int (1 : Int32)), .unset] [])) _
            refine XS.iloadN X0.here hx rfl (hb hby d3_52) rfl ?_
            show Steps p.tables e below (s₁.setTop (mkF m 53 #[.val (.int p1), .val (.int p1), .val (.int (0 : Int32)), .val (.int (0 : Int32)), .val (.int (1 : Int32)), .unset] [(.int p1)])) _
            refine XS.sipush X0.here hx rfl (hb hby d3_53) ?_
            show Steps p.tables e below (s₁.setTop (mkF m 56 #[.val (.int p1), .val (.int p1), .val (.int (0 : Int32)), .val (.int (0 : Int32)), .val (.int (1 : Int32)), .unset] [(.int (8233 : Int32)), (.int p1)])) _
            exact kt
          by_cases hc43 : p1 = (8233 : Int32)
          · have pre45 : own_Go p e below S0 (s₁.setTop (mkF m 89 #[.val (.int p1), .val (.int p1), .val (.int (0 : Int32)), .val (.int (0 : Int32)), .val (.int (1 : Int32)), .val (.int (1 : Int32))] [(.int (1 : Int32))])) := by
              intro t kt
              refine pre44 t ?_
              refine XS.icmpNo X0.here hx rfl (hb hby d3_56) rfl (teq hc43).2 ?_
              show Steps p.tables e below (s₁.setTop (mkF m 59 #[.val (.int p1), .val (.int p1), .val (.int (0 : Int32)), .val (.int (0 : Int32)), .val (.int (1 : Int32)), .unset] [])) _
              refine XS.iconst X0.here hx rfl (hb hby d3_59) ?_
              show Steps p.tables e below (s₁.setTop (mkF m 60 #[.val (.int p1), .val (.int p1), .val (.int (0 : Int32)), .val (.int (0 : Int32)), .val (.int (1 : Int32)), .unset] [(.int (1 : Int32))])) _
              refine XS.goto X0.here hx rfl (pc0 := 60) (pc' := 64) rfl (hb hby d3_60) (by decide) (by decide) ?_
              show Steps p.tables e below (s₁.setTop (mkF m 64 #[.val (.int p1), .val (.int p1), .val (.int (0 : Int32)), .val (.int (0 : Int32)), .val (.int (1 : Int32)), .unset] [(.int (1 : Int32))])) _
              refine XS.istore X0.here hx rfl (hb hby d3_64) rfl (l' := #[.val (.int p1), .val (.int p1), .val (.int (0 : Int32)), .val (.int (0 : Int32)), .val (.int (1 : Int32)), .val (.int (1 : Int32))]) rfl ?_
              show Steps p.tables e below (s₁.setTop (mkF m 66 #[.val (.int p1), .val (.int p1), .val (.int (0 : Int32)), .val (.int (0 : Int32)), .val (.int (1 : Int32)), .val (.int (1 : Int32))] [])) _
              refine XS.iloadN X0.here hx rfl (hb hby d3_66) rfl ?_
              show Steps p.tables e below (s₁.setTop (mkF m 67 #[.val (.int p1), .val (.int p1), .val (.int (0 : Int32)), .val (.int (0 : Int32)), .val (.int (1 : Int32)), .val (.int (1 : Int32))] [(.int (0 : Int32))])) _
              refine XS.ifNo X0.here hx rfl (hb hby d3_67) rfl ((if0 _ _).trans (teq (by decide : (0 : Int32) = (0 : Int32))).2) ?_
              show Steps p.tables e below (s₁.setTop (mkF m 70 #[.val (.int p1), .val (.int p1), .val (.int (0 : Int32)), .val (.int (0 : Int32)), .val (.int (1 : Int32)), .val (.int (1 : Int32))] [])) _
              refine XS.iloadN X0.here hx rfl (hb hby d3_70) rfl ?_
              show Steps p.tables e below (s₁.setTop (mkF m 71 #[.val (.int p1), .val (.int p1), .val (.int (0 : Int32)), .val (.int (0 : Int32)), .val (.int (1 : Int32)), .val (.int (1 : Int32))] [(.int (0 : Int32))])) _
              refine XS.ifNo X0.here hx rfl (hb hby d3_71) rfl ((if0 _ _).trans (teq (by decide : (0 : Int32) = (0 : Int32))).2) ?_
              show Steps p.tables e below (s₁.setTop (mkF m 74 #[.val (.int p1), .val (.int p1), .val (.int (0 : Int32)), .val (.int (0 : Int32)), .val (.int (1 : Int32)), .val (.int (1 : Int32))] [])) _
              refine XS.iload X0.here hx rfl (hb hby d3_74) rfl ?_
              show Steps p.tables e below (s₁.setTop (mkF m 76 #[.val (.int p1), .val (.int p1), .val (.int (0 : Int32)), .val (.int (0 : Int32)), .val (.int (1 : Int32)), .val (.int (1 : Int32))] [(.int (1 : Int32))])) _
              refine XS.ifYes X0.here hx rfl (pc0 := 76) (pc' := 84) rfl (hb hby d3_76) rfl ((if0 _ _).trans (feq (by decide : ¬ ((1 : Int32) = (0 : Int32)))).2) (by decide) (by decide) ?_
              show Steps p.tables e below (s₁.setTop (mkF m 84 #[.val (.int p1), .val (.int p1), .val (.int (0 : Int32)), .val (.int (0 : Int32)), .val (.int (1 : Int32)), .val (.int (1 : Int32))] [])) _
              refine XS.iconst X0.here hx rfl (hb hby d3_84) ?_
              show Steps p.tables e below (s₁.setTop (mkF m 85 #[.val (.int p1), .val (.int p1), .val (.int (0 : Int32)), .val (.int (0 : Int32)), .val (.int (1 : Int32)), .val (.int (1 : Int32))] [(.int (1 : Int32))])) _
              refine XS.goto X0.here hx rfl (pc0 := 85) (pc' := 89) rfl (hb hby d3_85) (by decide) (by decide) ?_
              show Steps p.tables e below (s₁.setTop (mkF m 89 #[.val (.int p1), .val (.int p1), .val (.int (0 : Int32)), .val (.int (0 : Int32)), .val (.int (1 : Int32)), .val (.int (1 : Int32))] [(.int (1 : Int32))])) _
              exact kt
            obtain ⟨fs, hr, hrun, hended, hW, hsame⟩ := X0.leave (v := some (.int (1 : Int32))) (fun h => by rw [Bd.returns] at h; cases h)
            refine ⟨_, _, fin _ (pre45 _ ?_), hrun, hended, _, _, rfl, ?_, ⟨_, rfl⟩, hW, hsame.mono (by decide) (by decide)⟩
            · exact retN X0 hx (t := .boolean) Bd.returns (by simp) (hb hby d3_89) hr
            · show Q3 Z p1 h0 n0 _ s₁.heap _
              rw [e0]
              exact ⟨(by show some _ = some _; rw [own_exp, if_neg hc1, if_pos hc37, if_pos hc39, if_pos hc41, if_pos hc43]), N0, rfl⟩
          · have pre46 : own_Go p e below S0 (s₁.setTop (mkF m 89 #[.val (.int p1), .val (.int p1), .val (.int (0 : Int32)), .val (.int (0 : Int32)), .val (.int (1 : Int32)), .val (.int (0 : Int32))] [(.int (1 : Int32))])) := by
              intro t kt
              refine pre44 t ?_
              refine XS.icmpYes X0.here hx rfl (pc0 := 56) (pc' := 63) rfl (hb hby d3_56) rfl (feq hc43).2 (by decide) (by decide) ?_
              show Steps p.tables e below (s₁.setTop (mkF m 63 #[.val (.int p1), .val (.int p1), .val (.int (0 : Int32)), .val (.int (0 : Int32)), .val (.int (1 : Int32)), .unset] [])) _
              refine XS.iconst X0.here hx rfl (hb hby d3_63) ?_
              show Steps p.tables e below (s₁.setTop (mkF m 64 #[.val (.int p1), .val (.int p1), .val (.int (0 : Int32)), .val (.int (0 : Int32)), .val (.int (1 : Int32)), .unset] [(.int (0 : Int32))])) _
              refine XS.istore X0.here hx rfl (hb hby d3_64) rfl (l' := #[.val (.int p1), .val (.int p1), .val (.int (0 : Int32)), .val (.int (0 : Int32)), .val (.int (1 : Int32)), .val (.int (0 : Int32))]) rfl ?_
              show Steps p.tables e below (s₁.setTop (mkF m 66 #[.val (.int p1), .val (.int p1), .val (.int (0 : Int32)), .val (.int (0 : Int32)), .val (.int (1 : Int32)), .val (.int (0 : Int32))] [])) _
              refine XS.iloadN X0.here hx rfl (hb hby d3_66) rfl ?_
              show Steps p.tables e below (s₁.setTop (mkF m 67 #[.val (.int p1), .val (.int p1), .val (.int (0 : Int32)), .val (.int (0 : Int32)), .val (.int (1 : Int32)), .val (.int (0 : Int32))] [(.int (0 : Int32))])) _
              refine XS.ifNo X0.here hx rfl (hb hby d3_67) rfl ((if0 _ _).trans (teq (by decide : (0 : Int32) = (0 : Int32))).2) ?_
              show Steps p.tables e below (s₁.setTop (mkF m 70 #[.val (.int p1), .val (.int p1), .val (.int (0 : Int32)), .val (.int (0 : Int32)), .val (.int (1 : Int32)), .val (.int (0 : Int32))] [])) _
              refine XS.iloadN X0.here hx rfl (hb hby d3_70) rfl ?_
              show Steps p.tables e below (s₁.setTop (mkF m 71 #[.val (.int p1), .val (.int p1), .val (.int (0 : Int32)), .val (.int (0 : Int32)), .val (.int (1 : Int32)), .val (.int (0 : Int32))] [(.int (0 : Int32))])) _
              refine XS.ifNo X0.here hx rfl (hb hby d3_71) rfl ((if0 _ _).trans (teq (by decide : (0 : Int32) = (0 : Int32))).2) ?_
              show Steps p.tables e below (s₁.setTop (mkF m 74 #[.val (.int p1), .val (.int p1), .val (.int (0 : Int32)), .val (.int (0 : Int32)), .val (.int (1 : Int32)), .val (.int (0 : Int32))] [])) _
              refine XS.iload X0.here hx rfl (hb hby d3_74) rfl ?_
              show Steps p.tables e below (s₁.setTop (mkF m 76 #[.val (.int p1), .val (.int p1), .val (.int (0 : Int32)), .val (.int (0 : Int32)), .val (.int (1 : Int32)), .val (.int (0 : Int32))] [(.int (1 : Int32))])) _
              refine XS.ifYes X0.here hx rfl (pc0 := 76) (pc' := 84) rfl (hb hby d3_76) rfl ((if0 _ _).trans (feq (by decide : ¬ ((1 : Int32) = (0 : Int32)))).2) (by decide) (by decide) ?_
              show Steps p.tables e below (s₁.setTop (mkF m 84 #[.val (.int p1), .val (.int p1), .val (.int (0 : Int32)), .val (.int (0 : Int32)), .val (.int (1 : Int32)), .val (.int (0 : Int32))] [])) _
              refine XS.iconst X0.here hx rfl (hb hby d3_84) ?_
              show Steps p.tables e below (s₁.setTop (mkF m 85 #[.val (.int p1), .val (.int p1), .val (.int (0 : Int32)), .val (.int (0 : Int32)), .val (.int (1 : Int32)), .val (.int (0 : Int32))] [(.int (1 : Int32))])) _
              refine XS.goto X0.here hx rfl (pc0 := 85) (pc' := 89) rfl (hb hby d3_85) (by decide) (by decide) ?_
              show Steps p.tables e below (s₁.setTop (mkF m 89 #[.val (.int p1), .val (.int p1), .val (.int (0 : Int32)), .val (.int (0 : Int32)), .val (.int (1 : Int32)), .val (.int (0 : Int32))] [(.int (1 : Int32))])) _
              exact kt
            obtain ⟨fs, hr, hrun, hended, hW, hsame⟩ := X0.leave (v := some (.int (1 : Int32))) (fun h => by rw [Bd.returns] at h; cases h)
            refine ⟨_, _, fin _ (pre46 _ ?_), hrun, hended, _, _, rfl, ?_, ⟨_, rfl⟩, hW, hsame.mono (by decide) (by decide)⟩
            · exact retN X0 hx (t := .boolean) Bd.returns (by simp) (hb hby d3_89) hr
            · show Q3 Z p1 h0 n0 _ s₁.heap _
              rw [e0]
              exact ⟨(by show some _ = some _; rw [own_exp, if_neg hc1, if_pos hc37, if_pos hc39, if_pos hc41, if_neg hc43]), N0, rfl⟩
        · have pre48 : own_Go p e below S0 (s₁.setTop (mkF m 56 #[.val (.int p1), .val (.int p1), .val (.int (0 : Int32)), .val (.int (0 : Int32)), .val (.int (0 : Int32)), .unset] [(.int (8233 : Int32)), (.int p1)])) := by
            intro t kt
            refine pre42 t ?_
            refine XS.icmpYes X0.here hx rfl (pc0 := 42) (pc' := 49) rfl (hb hby d3_42) rfl (feq hc41).2 (by decide) (by decide) ?_
            show Steps p.tables e below (s₁.setTop (mkF m 49 #[.val (.int p1), .val (.int p1), .val (.int (0 : Int32)), .val (.int (0 : Int32)), .unset, .unset] [])) _
            refine XS.iconst X0.here hx rfl (hb hby d3_49) ?_
            show Steps p.tables e below (s₁.setTop (mkF m 50 #[.val (.int p1), .val (.int p1), .val (.int (0 : Int32)), .val (.int (0 : Int32)), .unset, .unset] [(.int (0 : Int32))])) _
            refine XS.istore X0.here hx rfl (hb hby d3_50) rfl (l' := #[.val (.int p1), .val (.int p1), .val (.int (0 : Int32)), .val (.int (0 : Int32)), .val (.int (0 : Int32)), .unset]) rfl ?_
            show Steps p.tables e below (s₁.setTop (mkF m 52 #[.val (.int p1), .val (.int p1), .val (.int (0 : Int32)), .val (.int (0 : Int32)), .val (.int (0 : Int32)), .unset] [])) _
            refine XS.iloadN X0.here hx rfl (hb hby d3_52) rfl ?_
            show Steps p.tables e below (s₁.setTop (mkF m 53 #[.val (.int p1), .val (.int p1), .val (.int (0 : Int32)), .val (.int (0 : Int32)), .val (.int (0 : Int32)), .unset] [(.int p1)])) _
            refine XS.sipush X0.here hx rfl (hb hby d3_53) ?_
            show Steps p.tables e below (s₁.setTop (mkF m 56 #[.val (.int p1), .val (.int p1), .val (.int (0 : Int32)), .val (.int (0 : Int32)), .val (.int (0 : Int32)), .unset] [(.int (8233 : Int32)), (.int p1)])) _
            exact kt
          by_cases hc47 : p1 = (8233 : Int32)
          · have pre49 : own_Go p e below S0 (s₁.setTop (mkF m 89 #[.val (.int p1), .val (.int p1), .val (.int (0 : Int32)), .val (.int (0 : Int32)), .val (.int (0 : Int32)), .val (.int (1 : Int32))] [(.int (1 : Int32))])) := by
              intro t kt
              refine pre48 t ?_
              refine XS.icmpNo X0.here hx rfl (hb hby d3_56) rfl (teq hc47).2 ?_
              show Steps p.tables e below (s₁.setTop (mkF m 59 #[.val (.int p1), .val (.int p1), .val (.int (0 : Int32)), .val (.int (0 : Int32)), .val (.int (0 : Int32)), .unset] [])) _
              refine XS.iconst X0.here hx rfl (hb hby d3_59) ?_
              show Steps p.tables e below (s₁.setTop (mkF m 60 #[.val (.int p1), .val (.int p1), .val (.int (0 : Int32)), .val (.int (0 : Int32)), .val (.int (0 : Int32)), .unset] [(.int (1 : Int32))])) _
              refine XS.goto X0.here hx rfl (pc0 := 60) (pc' := 64) rfl (hb hby d3_60) (by decide) (by decide) ?_
              show Steps p.tables e below (s₁.setTop (mkF m 64 #[.val (.int p1), .val (.int p1), .val (.int (0 : Int32)), .val (.int (0 : Int32)), .val (.int (0 : Int32)), .unset] [(.int (1 : Int32))])) _
              refine XS.istore X0.here hx rfl (hb hby d3_64) rfl (l' := #[.val (.int p1), .val (.int p1), .val (.int (0 : Int32)), .val (.int (0 : Int32)), .val (.int (0 : Int32)), .val (.int (1 : Int32))]) rfl ?_
              show Steps p.tables e below (s₁.setTop (mkF m 66 #[.val (.int p1), .val (.int p1), .val (.int (0 : Int32)), .val (.int (0 : Int32)), .val (.int (0 : Int32)), .val (.int (1 : Int32))] [])) _
              refine XS.iloadN X0.here hx rfl (hb hby d3_66) rfl ?_
              show Steps p.tables e below (s₁.setTop (mkF m 67 #[.val (.int p1), .val (.int p1), .val (.int (0 : Int32)), .val (.int (0 : Int32)), .val (.int (0 : Int32)), .val (.int (1 : Int32))] [(.int (0 : Int32))])) _
              refine XS.ifNo X0.here hx rfl (hb hby d3_67) rfl ((if0 _ _).trans (teq (by decide : (0 : Int32) = (0 : Int32))).2) ?_
              show Steps p.tables e below (s₁.setTop (mkF m 70 #[.val (.int p1), .val (.int p1), .val (.int (0 : Int32)), .val (.int (0 : Int32)), .val (.int (0 : Int32)), .val (.int (1 : Int32))] [])) _
              refine XS.iloadN X0.here hx rfl (hb hby d3_70) rfl ?_
              show Steps p.tables e below (s₁.setTop (mkF m 71 #[.val (.int p1), .val (.int p1), .val (.int (0 : Int32)), .val (.int (0 : Int32)), .val (.int (0 : Int32)), .val (.int (1 : Int32))] [(.int (0 : Int32))])) _
              refine XS.ifNo X0.here hx rfl (hb hby d3_71) rfl ((if0 _ _).trans (teq (by decide : (0 : Int32) = (0 : Int32))).2) ?_
              show Steps p.tables e below (s₁.setTop (mkF m 74 #[.val (.int p1), .val (.int p1), .val (.int (0 : Int32)), .val (.int (0 : Int32)), .val (.int (0 : Int32)), .val (.int (1 : Int32))] [])) _
              refine XS.iload X0.here hx rfl (hb hby d3_74) rfl ?_
              show Steps p.tables e below (s₁.setTop (mkF m 76 #[.val (.int p1), .val (.int p1), .val (.int (0 : Int32)), .val (.int (0 : Int32)), .val (.int (0 : Int32)), .val (.int (1 : Int32))] [(.int (0 : Int32))])) _
              refine XS.ifNo X0.here hx rfl (hb hby d3_76) rfl ((if0 _ _).trans (teq (by decide : (0 : Int32) = (0 : Int32))).2) ?_
              show Steps p.tables e below (s₁.setTop (mkF m 79 #[.val (.int p1), .val (.int p1), .val (.int (0 : Int32)), .val (.int (0 : Int32)), .val (.int (0 : Int32)), .val (.int (1 : Int32))] [])) _
              refine XS.iload X0.here hx rfl (hb hby d3_79) rfl ?_
              show Steps p.tables e below (s₁.setTop (mkF m 81 #[.val (.int p1), .val (.int p1), .val (.int (0 : Int32)), .val (.int (0 : Int32)), .val (.int (0 : Int32)), .val (.int (1 : Int32))] [(.int (1 : Int32))])) _
              refine XS.ifNo X0.here hx rfl (hb hby d3_81) rfl ((if0 _ _).trans (feq (by decide : ¬ ((1 : Int32) = (0 : Int32)))).1) ?_
              show Steps p.tables e below (s₁.setTop (mkF m 84 #[.val (.int p1), .val (.int p1), .val (.int (0 : Int32)), .val (.int (0 : Int32)), .val (.int (0 : Int32)), .val (.int (1 : Int32))] [])) _
              refine XS.iconst X0.here hx rfl (hb hby d3_84) ?_
              show Steps p.tables e below (s₁.setTop (mkF m 85 #[.val (.int p1), .val (.int p1), .val (.int (0 : Int32)), .val (.int (0 : Int32)), .val (.int (0 : Int32)), .val (.int (1 : Int32))] [(.int (1 : Int32))])) _
              refine XS.goto X0.here hx rfl (pc0 := 85) (pc' := 89) rfl (hb hby d3_85) (by decide) (by decide) ?_
              show Steps p.tables e below (s₁.setTop (mkF m 89 #[.val (.int p1), .val (.int p1), .val (.int (0 : Int32)), .val (.int (0 : Int32)), .val (.int (0 : Int32)), .val (.int (1 : Int32))] [(.int (1 : Int32))])) _
              exact kt
            obtain ⟨fs, hr, hrun, hended, hW, hsame⟩ := X0.leave (v := some (.int (1 : Int32))) (fun h => by rw [Bd.returns] at h; cases h)
            refine ⟨_, _, fin _ (pre49 _ ?_), hrun, hended, _, _, rfl, ?_, ⟨_, rfl⟩, hW, hsame.mono (by decide) (by decide)⟩
            · exact retN X0 hx (t := .boolean) Bd.returns (by simp) (hb hby d3_89) hr
            · show Q3 Z p1 h0 n0 _ s₁.heap _
              rw [e0]
              exact ⟨(by show some _ = some _; rw [own_exp, if_neg hc1, if_pos hc37, if_pos hc39, if_neg hc41, if_pos hc47]), N0, rfl⟩
          · have pre50 : own_Go p e below S0 (s₁.setTop (mkF m 89 #[.val (.int p1), .val (.int p1), .val (.int (0 : Int32)), .val (.int (0 : Int32)), .val (.int (0 : Int32)), .val (.int (0 : Int32))] [(.int (0 : Int32))])) := by
              intro t kt
              refine pre48 t ?_
              refine XS.icmpYes X0.here hx rfl (pc0 := 56) (pc' := 63) rfl (hb hby d3_56) rfl (feq hc47).2 (by decide) (by decide) ?_
              show Steps p.tables e below (s₁.setTop (mkF m 63 #[.val (.int p1), .val (.int p1), .val (.int (0 : Int32)), .val (.int (0 : Int32)), .val (.int (0 : Int32)), .unset] [])) _
              refine XS.iconst X0.here hx rfl (hb hby d3_63) ?_
              show Steps p.tables e below (s₁.setTop (mkF m 64 #[.val (.int p1), .val (.int p1), .val (.int (0 : Int32)), .val (.int (0 : Int32)), .val (.int (0 : Int32)), .unset] [(.int (0 : Int32))])) _
              refine XS.istore X0.here hx rfl (hb hby d3_64) rfl (l' := #[.val (.int p1), .val (.int p1), .val (.int (0 : Int32)), .val (.int (0 : Int32)), .val (.int (0 : Int32)), .val (.int (0 : Int32))]) rfl ?_
              show Steps p.tables e below (s₁.setTop (mkF m 66 #[.val (.int p1), .val (.int p1), .val (.int (0 : Int32)), .val (.int (0 : Int32)), .val (.int (0 : Int32)), .val (.int (0 : Int32))] [])) _
              refine XS.iloadN X0.here hx rfl (hb hby d3_66) rfl ?_
              show Steps p.tables e below (s₁.setTop (mkF m 67 #[.val (.int p1), .val (.int p1), .val (.int (0 : Int32)), .val (.int (0 : Int32)), .val (.int (0 : Int32)), .val (.int (0 : Int32))] [(.int (0 : Int32))])) _
              refine XS.ifNo X0.here hx rfl (hb hby d3_67) rfl ((if0 _ _).trans (teq (by decide : (0 : Int32) = (0 : Int32))).2) ?_
              show Steps p.tables e below (s₁.setTop (mkF m 70 #[.val (.int p1), .val (.int p1), .val (.int (0 : Int32)), .val (.int (0 : Int32)), .val (.int (0 : Int32)), .val (.int (0 : Int32))] [])) _
              refine XS.iloadN X0.here hx rfl (hb hby d3_70) rfl ?_
              show Steps p.tables e below (s₁.setTop (mkF m 71 #[.val (.int p1), .val (.int p1), .val (.int (0 : Int32)), .val (.int (0 : Int32)), .val (.int (0 : Int32)), .val (.int (0 : Int32))] [(.int (0 : Int32))])) _
              refine XS.ifNo X0.here hx rfl (hb hby d3_71) rfl ((if0 _ _).trans (teq (by decide : (0 : Int32) = (0 : Int32))).2) ?_
              show Steps p.tables e below (s₁.setTop (mkF m 74 #[.val (.int p1), .val (.int p1), .val (.int (0 : Int32)), .val (.int (0 : Int32)), .val (.int (0 : Int32)), .val (.int (0 : Int32))] [])) _
              refine XS.iload X0.here hx rfl (hb hby d3_74) rfl ?_
              show Steps p.tables e below (s₁.setTop (mkF m 76 #[.val (.int p1), .val (.int p1), .val (.int (0 : Int32)), .val (.int (0 : Int32)), .val (.int (0 : Int32)), .val (.int (0 : Int32))] [(.int (0 : Int32))])) _
              refine XS.ifNo X0.here hx rfl (hb hby d3_76) rfl ((if0 _ _).trans (teq (by decide : (0 : Int32) = (0 : Int32))).2) ?_
              show Steps p.tables e below (s₁.setTop (mkF m 79 #[.val (.int p1), .val (.int p1), .val (.int (0 : Int32)), .val (.int (0 : Int32)), .val (.int (0 : Int32)), .val (.int (0 : Int32))] [])) _
              refine XS.iload X0.here hx rfl (hb hby d3_79) rfl ?_
              show Steps p.tables e below (s₁.setTop (mkF m 81 #[.val (.int p1), .val (.int p1), .val (.int (0 : Int32)), .val (.int (0 : Int32)), .val (.int (0 : Int32)), .val (.int (0 : Int32))] [(.int (0 : Int32))])) _
              refine XS.ifYes X0.here hx rfl (pc0 := 81) (pc' := 88) rfl (hb hby d3_81) rfl ((if0 _ _).trans (teq (by decide : (0 : Int32) = (0 : Int32))).1) (by decide) (by decide) ?_
              show Steps p.tables e below (s₁.setTop (mkF m 88 #[.val (.int p1), .val (.int p1), .val (.int (0 : Int32)), .val (.int (0 : Int32)), .val (.int (0 : Int32)), .val (.int (0 : Int32))] [])) _
              refine XS.iconst X0.here hx rfl (hb hby d3_88) ?_
              show Steps p.tables e below (s₁.setTop (mkF m 89 #[.val (.int p1), .val (.int p1), .val (.int (0 : Int32)), .val (.int (0 : Int32)), .val (.int (0 : Int32)), .val (.int (0 : Int32))] [(.int (0 : Int32))])) _
              exact kt
            obtain ⟨fs, hr, hrun, hended, hW, hsame⟩ := X0.leave (v := some (.int (0 : Int32))) (fun h => by rw [Bd.returns] at h; cases h)
            refine ⟨_, _, fin _ (pre50 _ ?_), hrun, hended, _, _, rfl, ?_, ⟨_, rfl⟩, hW, hsame.mono (by decide) (by decide)⟩
            · exact retN X0 hx (t := .boolean) Bd.returns (by simp) (hb hby d3_89) hr
            · show Q3 Z p1 h0 n0 _ s₁.heap _
              rw [e0]
              exact ⟨(by show some _ = some _; rw [own_exp, if_neg hc1, if_pos hc37, if_pos hc39, if_neg hc41, if_neg hc47]), N0, rfl⟩
      · have pre52 : own_Go p e below S0 (s₁.setTop (mkF m 29 #[.val (.int p1), .val (.int p1), .val (.int (0 : Int32)), .unset, .unset, .unset] [(.int (159 : Int32)), (.int p1)])) := by
          intro t kt
          refine pre40 t ?_
          refine XS.icmpNo X0.here hx rfl (hb hby d3_22) rfl (flt hc39).2.2.1 ?_
          show Steps p.tables e below (s₁.setTop (mkF m 25 #[.val (.int p1), .val (.int p1), .val (.int (0 : Int32)), .unset, .unset, .unset] [])) _
          refine XS.iloadN X0.here hx rfl (hb hby d3_25) rfl ?_
          show Steps p.tables e below (s₁.setTop (mkF m 26 #[.val (.int p1), .val (.int p1), .val (.int (0 : Int32)), .unset, .unset, .unset] [(.int p1)])) _
          refine XS.sipush X0.here hx rfl (hb hby d3_26) ?_
          show Steps p.tables e below (s₁.setTop (mkF m 29 #[.val (.int p1), .val (.int p1), .val (.int (0 : Int32)), .unset, .unset, .unset] [(.int (159 : Int32)), (.int p1)])) _
          exact kt
        by_cases hc51 : (159 : Int32) < p1
        · have pre54 : own_Go p e below S0 (s₁.setTop (mkF m 42 #[.val (.int p1), .val (.int p1), .val (.int (0 : Int32)), .val (.int (0 : Int32)), .unset, .unset] [(.int (8232 : Int32)), (.int p1)])) := by
            intro t kt
            refine pre52 t ?_
            refine XS.icmpYes X0.here hx rfl (pc0 := 29) (pc' := 36) rfl (hb hby d3_29) rfl (tlt hc51).2.2.1 (by decide) (by decide) ?_
            show Steps p.tables e below (s₁.setTop (mkF m 36 #[.val (.int p1), .val (.int p1), .val (.int (0 : Int32)), .unset, .unset, .unset] [])) _
            refine XS.iconst X0.here hx rfl (hb hby d3_36) ?_
            show Steps p.tables e below (s₁.setTop (mkF m 37 #[.val (.int p1), .val (.int p1), .val (.int (0 : Int32)), .unset, .unset, .unset] [(.int (0 : Int32))])) _
            refine XS.istoreN X0.here hx rfl (hb hby d3_37) rfl (l' := #[.val (.int p1), .val (.int p1), .val (.int (0 : Int32)), .val (.int (0 : Int32)), .unset, .unset]) rfl ?_
            show Steps p.tables e below (s₁.setTop (mkF m 38 #[.val (.int p1), .val (.int p1), .val (.int (0 : Int32)), .val (.int (0 : Int32)), .unset, .unset] [])) _
            refine XS.iloadN X0.here hx rfl (hb hby d3_38) rfl ?_
            show Steps p.tables e below (s₁.setTop (mkF m 39 #[.val (.int p1), .val (.int p1), .val (.int (0 : Int32)), .val (.int (0 : Int32)), .unset, .unset] [(.int p1)])) _
            refine XS.sipush X0.here hx rfl (hb hby d3_39) ?_
            show Steps p.tables e below (s₁.setTop (mkF m 42 #[.val (.int p1), .val (.int p1), .val (.int (0 : Int32)), .val (.int (0 : Int32)), .unset, .unset] [(.int (8232 : Int32)), (.int p1)])) _
            exact kt
          by_cases hc53 : p1 = (8232 : Int32)
          · have pre56 : own_Go p e below S0 (s₁.setTop (mkF m 56 #[.val (.int p1), .val (.int p1), .val (.int (0 : Int32)), .val (.int (0 : Int32)), .val (.int (1 : Int32)), .unset] [(.int (8233 : Int32)), (.int p1)])) := by
              intro t kt
              refine pre54 t ?_
              refine XS.icmpNo X0.here hx rfl (hb hby d3_42) rfl (teq hc53).2 ?_
              show Steps p.tables e below (s₁.setTop (mkF m 45 #[.val (.int p1), .val (.int p1), .val (.int (0 : Int32)), .val (.int (0 : Int32)), .unset, .unset] [])) _
              refine XS.iconst X0.here hx rfl (hb hby d3_45) ?_
              show Steps p.tables e below (s₁.setTop (mkF m 46 #[.val (.int p1), .val (.int p1), .val (.int (0 : Int32)), .val (.int (0 : Int32)), .unset, .unset] [(.int (1 : Int32))])) _
              refine XS.goto X0.here hx rfl (pc0 := 46) (pc' := 50) rfl (hb hby d3_46) (by decide) (by decide) ?_
              show Steps p.tables e below (s₁.setTop (mkF m 50 #[.val (.int p1), .val (.int p1), .val (.int (0 : Int32)), .val (.int (0 : Int32)), .unset, .unset] [(.int (1 : Int32))])) _
              refine XS.istore X0.here hx rfl (hb hby d3_50) rfl (l' := #[.val (.int p1), .val (.int p1), .val (.int (0 : Int32)), .val (.int (0 : Int32)), .val (.int (1 : Int32)), .unset]) rfl ?_
              show Steps p.tables e below (s₁.setTop (mkF m 52 #[.val (.int p1), .val (.int p1), .val (.int (0 : Int32)), .val (.int (0 : Int32)), .val (.int (1 : Int32)), .unset] [])) _
              refine XS.iloadN X0.here hx rfl (hb hby d3_52) rfl ?_
              show Steps p.tables e below (s₁.setTop (mkF m 53 #[.val (.int p1), .val (.int p1), .val (.int (0 : Int32)), .val (.int (0 : Int32)), .val (.int (1 : Int32)), .unset] [(.int p1)])) _
              refine XS.sipush X0.here hx rfl (hb hby d3_53) ?_
              show Steps p.tables e below (s₁.setTop (mkF m 56 #[.val (.int p1), .val (.int p1), .val (.int (0 : Int32)), .val (.int (0 : Int32)), .val (.int (1 : Int32)), .unset] [(.int (8233 : Int32)), (.int p1)])) _
              exact kt
            by_cases hc55 : p1 = (8233 : Int32)
            · have pre57 : own_Go p e below S0 (s₁.setTop (mkF m 89 #[.val (.int p1), .val (.int p1), .val (.int (0 : Int32)), .val (.int (0 : Int32)), .val (.int (1 : Int32)), .val (.int (1 : Int32))] [(.int (1 : Int32))])) := by
                intro t kt
                refine pre56 t ?_
                refine XS.icmpNo X0.here hx rfl (hb hby d3_56) rfl (teq hc55).2 ?_
                show Steps p.tables e below (s₁.setTop (mkF m 59 #[.val (.int p1), .val (.int p1), .val (.int (0 : Int32)), .val (.int (0 : Int32)), .val (.int (1 : Int32)), .unset] [])) _
                refine XS.iconst X0.here hx rfl (hb hby d3_59) ?_
                show Steps p.tables e below (s₁.setTop (mkF m 60 #[.val (.int p1), .val (.int p1), .val (.int (0 : Int32)), .val (.int (0 : Int32)), .val (.int (1 : Int32)), .unset] [(.int (1 : Int32))])) _
                refine XS.goto X0.here hx rfl (pc0 := 60) (pc' := 64) rfl (hb hby d3_60) (by decide) (by decide) ?_
                show Steps p.tables e below (s₁.setTop (mkF m 64 #[.val (.int p1), .val (.int p1), .val (.int (0 : Int32)), .val (.int (0 : Int32)), .val (.int (1 : Int32)), .unset] [(.int (1 : Int32))])) _
                refine XS.istore X0.here hx rfl (hb hby d3_64) rfl (l' := #[.val (.int p1), .val (.int p1), .val (.int (0 : Int32)), .val (.int (0 : Int32)), .val (.int (1 : Int32)), .val (.int (1 : Int32))]) rfl ?_
                show Steps p.tables e below (s₁.setTop (mkF m 66 #[.val (.int p1), .val (.int p1), .val (.int (0 : Int32)), .val (.int (0 : Int32)), .val (.int (1 : Int32)), .val (.int (1 : Int32))] [])) _
                refine XS.iloadN X0.here hx rfl (hb hby d3_66) rfl ?_
                show Steps p.tables e below (s₁.setTop (mkF m 67 #[.val (.int p1), .val (.int p1), .val (.int (0 : Int32)), .val (.int (0 : Int32)), .val (.int (1 : Int32)), .val (.int (1 : Int32))] [(.int (0 : Int32))])) _
                refine XS.ifNo X0.here hx rfl (hb hby d3_67) rfl ((if0 _ _).trans (teq (by decide : (0 : Int32) = (0 : Int32))).2) ?_
                show Steps p.tables e below (s₁.setTop (mkF m 70 #[.val (.int p1), .val (.int p1), .val (.int (0 : Int32)), .val (.int (0 : Int32)), .val (.int (1 : Int32)), .val (.int (1 : Int32))] [])) _
                refine XS.iloadN X0.here hx rfl (hb hby d3_70) rfl ?_
                show Steps p.tables e below (s₁.setTop (mkF m 71 #[.val (.int p1), .val (.int p1), .val (.int (0 : Int32)), .val (.int (0 : Int32)), .val (.int (1 : Int32)), .val (.int (1 : Int32))] [(.int (0 : Int32))])) _
                refine XS.ifNo X0.here hx rfl (hb hby d3_71) rfl ((if0 _ _).trans (teq (by decide : (0 : Int32) = (0 : Int32))).2) ?_
                show Steps p.tables e below (s₁.setTop (mkF m 74 #[.val (.int p1), .val (.int p1), .val (.int (0 : Int32)), .val (.int (0 : Int32)), .val (.int (1 : Int32)), .val (.int (1 : Int32))] [])) _
                refine XS.iload X0.here hx rfl (hb hby d3_74) rfl ?_
                show Steps p.tables e below (s₁.setTop (mkF m 76 #[.val (.int p1), .val (.int p1), .val (.int (0 : Int32)), .val (.int (0 : Int32)), .val (.int (1 : Int32)), .val (.int (1 : Int32))] [(.int (1 : Int32))])) _
                refine XS.ifYes X0.here hx rfl (pc0 := 76) (pc' := 84) rfl (hb hby d3_76) rfl ((if0 _ _).trans (feq (by decide : ¬ ((1 : Int32) = (0 : Int32)))).2) (by decide) (by decide) ?_
                show Steps p.tables e below (s₁.setTop (mkF m 84 #[.val (.int p1), .val (.int p1), .val (.int (0 : Int32)), .val (.int (0 : Int32)), .val (.int (1 : Int32)), .val (.int (1 : Int32))] [])) _
                refine XS.iconst X0.here hx rfl (hb hby d3_84) ?_
                show Steps p.tables e below (s₁.setTop (mkF m 85 #[.val (.int p1), .val (.int p1), .val (.int (0 : Int32)), .val (.int (0 : Int32)), .val (.int (1 : Int32)), .val (.int (1 : Int32))] [(.int (1 : Int32))])) _
                refine XS.goto X0.here hx rfl (pc0 := 85) (pc' := 89) rfl (hb hby d3_85) (by decide) (by decide) ?_
                show Steps p.tables e below (s₁.setTop (mkF m 89 #[.val (.int p1), .val (.int p1), .val (.int (0 : Int32)), .val (.int (0 : Int32)), .val (.int (1 : Int32)), .val (.int (1 : Int32))] [(.int (1 : Int32))])) _
                exact kt
              obtain ⟨fs, hr, hrun, hended, hW, hsame⟩ := X0.leave (v := some (.int (1 : Int32))) (fun h => by rw [Bd.returns] at h; cases h)
              refine ⟨_, _, fin _ (pre57 _ ?_), hrun, hended, _, _, rfl, ?_, ⟨_, rfl⟩, hW, hsame.mono (by decide) (by decide)⟩
              · exact retN X0 hx (t := .boolean) Bd.returns (by simp) (hb hby d3_89) hr
              · show Q3 Z p1 h0 n0 _ s₁.heap _
                rw [e0]
                exact ⟨(by show some _ = some _; rw [own_exp, if_neg hc1, if_pos hc37, if_neg hc39, if_pos hc51, if_pos hc53, if_pos hc55]), N0, rfl⟩
            · have pre58 : own_Go p e below S0 (s₁.setTop (mkF m 89 #[.val (.int p1), .val (.int p1), .val (.int (0 : Int32)), .val (.int (0 : Int32)), .val (.int (1 : Int32)), .val (.int (0 : Int32))] [(.int (1 : Int32))])) := by
                intro t kt
                refine pre56 t ?_
                refine XS.icmpYes X0.here hx rfl (pc0 := 56) (pc' := 63) rfl (hb hby d3_56) rfl (feq hc55).2 (by decide) (by decide) ?_
                show Steps p.tables e below (s₁.setTop (mkF m 63 #[.val (.int p1), .val (.int p1), .val (.int (0 : Int32)), .val (.int (0 : Int32)), .val (.int (1 : Int32)), .unset] [])) _
                refine XS.iconst X0.here hx rfl (hb hby d3_63) ?_
                show Steps p.tables e below (s₁.setTop (mkF m 64 #[.val (.int p1), .val (.int p1), .val (.int (0 : Int32)), .val (.int (0 : Int32)), .val (.int (1 : Int32)), .unset] [(.int (0 : Int32))])) _
                refine XS.istore X0.here hx rfl (hb hby d3_64) rfl (l' := #[.val (.int p1), .val (.int p1), .val (.int (0 : Int32)), .val (.int (0 : Int32)), .val (.int (1 : Int32)), .val (.int (0 : Int32))]) rfl ?_
                show Steps p.tables e below (s₁.setTop (mkF m 66 #[.val (.int p1), .val (.int p1), .val (.int (0 : Int32)), .val (.int (0 : Int32)), .val (.int (1 : Int32)), .val (.int (0 : Int32))] [])) _
                refine XS.iloadN X0.here hx rfl (hb hby d3_66) rfl ?_
                show Steps p.tables e below (s₁.setTop (mkF m 67 #[.val (.int p1), .val (.int p1), .val (.int (0 : Int32)), .val (.int (0 : Int32)), .val (.int (1 : Int32)), .val (.int (0 : Int32))] [(.int (0 : Int32))])) _
                refine XS.ifNo X0.here hx rfl (hb hby d3_67) rfl ((if0 _ _).trans (teq (by decide : (0 : Int32) = (0 : Int32))).2) ?_
                show Steps p.tables e below (s₁.setTop (mkF m 70 #[.val (.int p1), .val (.int p1), .val (.int (0 : Int32)), .val (.int (0 : Int32)), .val (.int (1 : Int32)), .val (.int (0 : Int32))] [])) _
                refine XS.iloadN X0.here hx rfl (hb hby d3_70) rfl ?_
                show Steps p.tables e below (s₁.setTop (mkF m 71 #[.val (.int p1), .val (.int p1), .val (.int (0 : Int32)), .val (.int (0 : Int32)), .val (.int (1 : Int32)), .val (.int (0 : Int32))] [(.int (0 : Int32))])) _
                refine XS.ifNo X0.here hx rfl (hb hby d3_71) rfl ((if0 _ _).trans (teq (by decide : (0 : Int32) = (0 : Int32))).2) ?_
                show Steps p.tables e below (s₁.setTop (mkF m 74 #[.val (.int p1), .val (.int p1), .val (.int (0 : Int32)), .val (.int (0 : Int32)), .val (.int (1 : Int32)), .val (.int (0 : Int32))] [])) _
                refine XS.iload X0.here hx rfl (hb hby d3_74) rfl ?_
                show Steps p.tables e below (s₁.setTop (mkF m 76 #[.val (.int p1), .val (.int p1), .val (.int (0 : Int32)), .val (.int (0 : Int32)), .val (.int (1 : Int32)), .val (.int (0 : Int32))] [(.int (1 : Int32))])) _
                refine XS.ifYes X0.here hx rfl (pc0 := 76) (pc' := 84) rfl (hb hby d3_76) rfl ((if0 _ _).trans (feq (by decide : ¬ ((1 : Int32) = (0 : Int32)))).2) (by decide) (by decide) ?_
                show Steps p.tables e below (s₁.setTop (mkF m 84 #[.val (.int p1), .val (.int p1), .val (.int (0 : Int32)), .val (.int (0 : Int32)), .val (.int (1 : Int32)), .val (.int (0 : Int32))] [])) _
                refine XS.iconst X0.here hx rfl (hb hby d3_84) ?_
                show Steps p.tables e below (s₁.setTop (mkF m 85 #[.val (.int p1), .val (.int p1), .val (.int (0 : Int32)), .val (.int (0 : Int32)), .val (.int (1 : Int32)), .val (.int (0 : Int32))] [(.int (1 : Int32))])) _
                refine XS.goto X0.here hx rfl (pc0 := 85) (pc' := 89) rfl (hb hby d3_85) (by decide) (by decide) ?_
                show Steps p.tables e below (s₁.setTop (mkF m 89 #[.val (.int p1), .val (.int p1), .val (.int (0 : Int32)), .val (.int (0 : Int32)), .val (.int (1 : Int32)), .val (.int (0 : Int32))] [(.int (1 : Int32))])) _
                exact kt
              obtain ⟨fs, hr, hrun, hended, hW, hsame⟩ := X0.leave (v := some (.int (1 : Int32))) (fun h => by rw [Bd.returns] at h; cases h)
              refine ⟨_, _, fin _ (pre58 _ ?_), hrun, hended, _, _, rfl, ?_, ⟨_, rfl⟩, hW, hsame.mono (by decide) (by decide)⟩
              · exact retN X0 hx (t := .boolean) Bd.returns (by simp) (hb hby d3_89) hr
              · show Q3 Z p1 h0 n0 _ s₁.heap _
                rw [e0]
                exact ⟨(by show some _ = some _; rw [own_exp, if_neg hc1, if_pos hc37, if_neg hc39, if_pos hc51, if_pos hc53, if_neg hc55]), N0, rfl⟩
          · have pre60 : own_Go p e below S0 (s₁.setTop (mkF m 56 #[.val (.int p1), .val (.int p1), .val (.int (0 : Int32)), .val (.int (0 : Int32)), .val (.int (0 : Int32)), .unset] [(.int (8233 : Int32)), (.int p1)])) := by
              intro t kt
              refine pre54 t ?_
              refine XS.icmpYes X0.here hx rfl (pc0 := 42) (pc' := 49) rfl (hb hby d3_42) rfl (feq hc53).2 (by decide) (by decide) ?_
              show Steps p.tables e below (s₁.setTop (mkF m 49 #[.val (.int p1), .val (.int p1), .val (.int (0 : Int32)), .val (.int (0 : Int32)), .unset, .unset] [])) _
              refine XS.iconst X0.here hx rfl (hb hby d3_49) ?_
              show Steps p.tables e below (s₁.setTop (mkF m 50 #[.val (.int p1), .val (.int p1), .val (.int (0 : Int32)), .val (.int (0 : Int32)), .unset, .unset] [(.int (0 : Int32))])) _
              refine XS.istore X0.here hx rfl (hb hby d3_50) rfl (l' := #[.val (.int p1), .val (.int p1), .val (.int (0 : Int32)), .val (.int (0 : Int32)), .val (.int (0 : Int32)), .unset]) rfl ?_
              show Steps p.tables e below (s₁.setTop (mkF m 52 #[.val (.int p1), .val (.int p1), .val (.int (0 : Int32)), .val (.int (0 : Int32)), .val (.int (0 : Int32)), .unset] [])) _
              refine XS.iloadN X0.here hx rfl (hb hby d3_52) rfl ?_
              show Steps p.tables e below (s₁.setTop (mkF m 53 #[.val (.int p1), .val (.int p1), .val (.int (0 : Int32)), .val (.int (0 : Int32)), .val (.int (0 : Int32)), .unset] [(.int p1)])) _
              refine XS.sipush X0.here hx rfl (hb hby d3_53) ?_
              show Steps p.tables e below (s₁.setTop (mkF m 56 #[.val (.int p1), .val (.int p1), .val (.int (0 : Int32)), .val (.int (0 : Int32)), .val (.int (0 : Int32)), .unset] [(.int (8233 : Int32)), (.int p1)])) _
              exact kt
            by_cases hc59 : p1 = (8233 : Int32)
            · have pre61 : own_Go p e below S0 (s₁.setTop (mkF m 89 #[.val (.int p1), .val (.int p1), .val (.int (0 : Int32)), .val (.int (0 : Int32)), .val (.int (0 : Int32)), .val (.int (1 : Int32))] [(.int (1 : Int32))])) := by
                intro t kt
                refine pre60 t ?_
                refine XS.icmpNo X0.here hx rfl (hb hby d3_56) rfl (teq hc59).2 ?_
                show Steps p.tables e below (s₁.setTop (mkF m 59 #[.val (.int p1), .val (.int p1), .val (.int (0 : Int32)), .val (.int (0 : Int32)), .val (.int (0 : Int32)), .unset] [])) _
                refine XS.iconst X0.here hx rfl (hb hby d3_59) ?_
                show Steps p.tables e below (s₁.setTop (mkF m 60 #[.val (.int p1), .val (.int p1), .val (.int (0 : Int32)), .val (.int (0 : Int32)), .val (.int (0 : Int32)), .unset] [(.int (1 : Int32))])) _
                refine XS.goto X0.here hx rfl (pc0 := 60) (pc' := 64) rfl (hb hby d3_60) (by decide) (by decide) ?_
                show Steps p.tables e below (s₁.setTop (mkF m 64 #[.val (.int p1), .val (.int p1), .val (.int (0 : Int32)), .val (.int (0 : Int32)), .val (.int (0 : Int32)), .unset] [(.int (1 : Int32))])) _
                refine XS.istore X0.here hx rfl (hb hby d3_64) rfl (l' := #[.val (.int p1), .val (.int p1), .val (.int (0 : Int32)), .val (.int (0 : Int32)), .val (.int (0 : Int32)), .val (.int (1 : Int32))]) rfl ?_
                show Steps p.tables e below (s₁.setTop (mkF m 66 #[.val (.int p1), .val (.int p1), .val (.int (0 : Int32)), .val (.int (0 : Int32)), .val (.int (0 : Int32)), .val (.int (1 : Int32))] [])) _
                refine XS.iloadN X0.here hx rfl (hb hby d3_66) rfl ?_
                show Steps p.tables e below (s₁.setTop (mkF m 67 #[.val (.int p1), .val (.int p1), .val (.int (0 : Int32)), .val (.int (0 : Int32)), .val (.int (0 : Int32)), .val (.int (1 : Int32))] [(.int (0 : Int32))])) _
                refine XS.ifNo X0.here hx rfl (hb hby d3_67) rfl ((if0 _ _).trans (teq (by decide : (0 : Int32) = (0 : Int32))).2) ?_
                show Steps p.tables e below (s₁.setTop (mkF m 70 #[.val (.int p1), .val (.int p1), .val (.int (0 : Int32)), .val (.int (0 : Int32)), .val (.int (0 : Int32)), .val (.int (1 : Int32))] [])) _
                refine XS.iloadN X0.here hx rfl (hb hby d3_70) rfl ?_
                show Steps p.tables e below (s₁.setTop (mkF m 71 #[.val (.int p1), .val (.int p1), .val (.int (0 : Int32)), .val (.int (0 : Int32)), .val (.int (0 : Int32)), .val (.int (1 : Int32))] [(.int (0 : Int32))])) _
                refine XS.ifNo X0.here hx rfl (hb hby d3_71) rfl ((if0 _ _).trans (teq (by decide : (0 : Int32) = (0 : Int32))).2) ?_
                show Steps p.tables e below (s₁.setTop (mkF m 74 #[.val (.int p1), .val (.int p1), .val (.int (0 : Int32)), .val (.int (0 : Int32)), .val (.int (0 : Int32)), .val (.int (1 : Int32))] [])) _
                refine XS.iload X0.here hx rfl (hb hby d3_74) rfl ?_
                show Steps p.tables e below (s₁.setTop (mkF m 76 #[.val (.int p1), .val (.int p1), .val (.int (0 : Int32)), .val (.int (0 : Int32)), .val (.int (0 : Int32)), .val (.int (1 : Int32))] [(.int (0 : Int32))])) _
                refine XS.ifNo X0.here hx rfl (hb hby d3_76) rfl ((if0 _ _).trans (teq (by decide : (0 : Int32) = (0 : Int32))).2) ?_
                show Steps p.tables e below (s₁.setTop (mkF m 79 #[.val (.int p1), .val (.int p1), .val (.int (0 : Int32)), .val (.int (0 : Int32)), .val (.int (0 : Int32)), .val (.int (1 : Int32))] [])) _
                refine XS.iload X0.here hx rfl (hb hby d3_79) rfl ?_
                show Steps p.tables e below (s₁.setTop (mkF m 81 #[.val (.int p1), .val (.int p1), .val (.int (0 : Int32)), .val (.int (0 : Int32)), .val (.int (0 : Int32)), .val (.int (1 : Int32))] [(.int (1 : Int32))])) _
                refine XS.ifNo X0.here hx rfl (hb hby d3_81) rfl ((if0 _ _).trans (feq (by decide : ¬ ((1 : Int32) = (0 : Int32)))).1) ?_
                show Steps p.tables e below (s₁.setTop (mkF m 84 #[.val (.int p1), .val (.int p1), .val (.int (0 : Int32)), .val (.int (0 : Int32)), .val (.int (0 : Int32)), .val (.int (1 : Int32))] [])) _
                refine XS.iconst X0.here hx rfl (hb hby d3_84) ?_
                show Steps p.tables e below (s₁.setTop (mkF m 85 #[.val (.int p1), .val (.int p1), .val (.int (0 : Int32)), .val (.int (0 : Int32)), .val (.int (0 : Int32)), .val (.int (1 : Int32))] [(.int (1 : Int32))])) _
                refine XS.goto X0.here hx rfl (pc0 := 85) (pc' := 89) rfl (hb hby d3_85) (by decide) (by decide) ?_
                show Steps p.tables e below (s₁.setTop (mkF m 89 #[.val (.int p1), .val (.int p1), .val (.int (0 : Int32)), .val (.int (0 : Int32)), .val (.int (0 : Int32)), .val (.int (1 : Int32))] [(.int (1 : Int32))])) _
                exact kt
              obtain ⟨fs, hr, hrun, hended, hW, hsame⟩ := X0.leave (v := some (.int (1 : Int32))) (fun h => by rw [Bd.returns] at h; cases h)
              refine ⟨_, _, fin _ (pre61 _ ?_), hrun, hended, _, _, rfl, ?_, ⟨_, rfl⟩, hW, hsame.mono (by decide) (by decide)⟩
              · exact retN X0 hx (t := .boolean) Bd.returns (by simp) (hb hby d3_89) hr
              · show Q3 Z p1 h0 n0 _ s₁.heap _
                rw [e0]
                exact ⟨(by show some _ = some _; rw [own_exp, if_neg hc1, if_pos hc37, if_neg hc39, if_pos hc51, if_neg hc53, if_pos hc59]), N0, rfl⟩
            · have pre62 : own_Go p e below S0 (s₁.setTop (mkF m 89 #[.val (.int p1), .val (.int p1), .val (.int (0 : Int32)), .val (.int (0 : Int32)), .val (.int (0 : Int32)), .val (.int (0 : Int32))] [(.int (0 : Int32))])) := by
                intro t kt
                refine pre60 t ?_
                refine XS.icmpYes X0.here hx rfl (pc0 := 56) (pc' := 63) rfl (hb hby d3_56) rfl (feq hc59).2 (by decide) (by decide) ?_
                show Steps p.tables e below (s₁.setTop (mkF m 63 #[.val (.int p1), .val (.int p1), .val (.int (0 : Int32)), .val (.int (0 : Int32)), .val (.int (0 : Int32)), .unset] [])) _
                refine XS.iconst X0.here hx rfl (hb hby d3_63) ?_
                show Steps p.tables e below (s₁.setTop (mkF m 64 #[.val (.int p1), .val (.int p1), .val (.int (0 : Int32)), .val (.int (0 : Int32)), .val (.int (0 : Int32)), .unset] [(.int (0 : Int32))])) _
                refine XS.istore X0.here hx rfl (hb hby d3_64) rfl (l' := #[.val (.int p1), .val (.int p1), .val (.int (0 : Int32)), .val (.int (0 : Int32)), .val (.int (0 : Int32)), .val (.int (0 : Int32))]) rfl ?_
                show Steps p.tables e below (s₁.setTop (mkF m 66 #[.val (.int p1), .val (.int p1), .val (.int (0 : Int32)), .val (.int (0 : Int32)), .val (.int (0 : Int32)), .val (.int (0 : Int32))] [])) _
                refine XS.iloadN X0.here hx rfl (hb hby d3_66) rfl ?_
                show Steps p.tables e below (s₁.setTop (mkF m 67 #[.val (.int p1), .val (.int p1), .val (.int (0 : Int32)), .val (.int (0 : Int32)), .val (.int (0 : Int32)), .val (.int (0 : Int32))] [(.int (0 : Int32))])) _
                refine XS.ifNo X0.here hx rfl (hb hby d3_67) rfl ((if0 _ _).trans (teq (by decide : (0 : Int32) = (0 : Int32))).2) ?_
                show Steps p.tables e below (s₁.setTop (mkF m 70 #[.val (.int p1), .val (.int p1), .val (.int (0 : Int32)), .val (.int (0 : Int32)), .val (.int (0 : Int32)), .val (.int (0 : Int32))] [])) _
                refine XS.iloadN X0.here hx rfl (hb hby d3_70) rfl ?_
                show Steps p.tables e below (s₁.setTop (mkF m 71 #[.val (.int p1), .val (.int p1), .val (.int (0 : Int32)), .val (.int (0 : Int32)), .val (.int (0 : Int32)), .val (.int (0 : Int32))] [(.int (0 : Int32))])) _
                refine XS.ifNo X0.here hx rfl (hb hby d3_71) rfl ((if0 _ _).trans (teq (by decide : (0 : Int32) = (0 : Int32))).2) ?_
                show Steps p.tables e below (s₁.setTop (mkF m 74 #[.val (.int p1), .val (.int p1), .val (.int (0 : Int32)), .val (.int (0 : Int32)), .val (.int (0 : Int32)), .val (.int (0 : Int32))] [])) _
                refine XS.iload X0.here hx rfl (hb hby d3_74) rfl ?_
                show Steps p.tables e below (s₁.setTop (mkF m 76 #[.val (.int p1), .val (.int p1), .val (.int (0 : Int32)), .val (.int (0 : Int32)), .val (.int (0 : Int32)), .val (.int (0 : Int32))] [(.int (0 : Int32))])) _
                refine XS.ifNo X0.here hx rfl (hb hby d3_76) rfl ((if0 _ _).trans (teq (by decide : (0 : Int32) = (0 : Int32))).2) ?_
                show Steps p.tables e below (s₁.setTop (mkF m 79 #[.val (.int p1), .val (.int p1), .val (.int (0 : Int32)), .val (.int (0 : Int32)), .val (.int (0 : Int32)), .val (.int (0 : Int32))] [])) _
                refine XS.iload X0.here hx rfl (hb hby d3_79) rfl ?_
                show Steps p.tables e below (s₁.setTop (mkF m 81 #[.val (.int p1), .val (.int p1), .val (.int (0 : Int32)), .val (.int (0 : Int32)), .val (.int (0 : Int32)), .val (.int (0 : Int32))] [(.int (0 : Int32))])) _
                refine XS.ifYes X0.here hx rfl (pc0 := 81) (pc' := 88) rfl (hb hby d3_81) rfl ((if0 _ _).trans (teq (by decide : (0 : Int32) = (0 : Int32))).1) (by decide) (by decide) ?_
                show Steps p.tables e below (s₁.setTop (mkF m 88 #[.val (.int p1), .val (.int p1), .val (.int (0 : Int32)), .val (.int (0 : Int32)), .val (.int (0 : Int32)), .val (.int (0 : Int32))] [])) _
                refine XS.iconst X0.here hx rfl (hb hby d3_88) ?_
                show Steps p.tables e below (s₁.setTop (mkF m 89 #[.val (.int p1), .val (.int p1), .val (.int (0 : Int32)), .val (.int (0 : Int32)), .val (.int (0 : Int32)), .val (.int (0 : Int32))] [(.int (0 : Int32))])) _
                exact kt
              obtain ⟨fs, hr, hrun, hended, hW, hsame⟩ := X0.leave (v := some (.int (0 : Int32))) (fun h => by rw [Bd.returns] at h; cases h)
              refine ⟨_, _, fin _ (pre62 _ ?_), hrun, hended, _, _, rfl, ?_, ⟨_, rfl⟩, hW, hsame.mono (by decide) (by decide)⟩
              · exact retN X0 hx (t := .boolean) Bd.returns (by simp) (hb hby d3_89) hr
              · show Q3 Z p1 h0 n0 _ s₁.heap _
                rw [e0]
                exact ⟨(by show some _ = some _; rw [own_exp, if_neg hc1, if_pos hc37, if_neg hc39, if_pos hc51, if_neg hc53, if_neg hc59]), N0, rfl⟩
        · have pre64 : own_Go p e below S0 (s₁.setTop (mkF m 42 #[.val (.int p1), .val (.int p1), .val (.int (0 : Int32)), .val (.int (1 : Int32)), .unset, .unset] [(.int (8232 : Int32)), (.int p1)])) := by
            intro t kt
            refine pre52 t ?_
            refine XS.icmpNo X0.here hx rfl (hb hby d3_29) rfl (flt hc51).2.2.1 ?_
            show Steps p.tables e below (s₁.setTop (mkF m 32 #[.val (.int p1), .val (.int p1), .val (.int (0 : Int32)), .unset, .unset, .unset] [])) _
            refine XS.iconst X0.here hx rfl (hb hby d3_32) ?_
            show Steps p.tables e below (s₁.setTop (mkF m 33 #[.val (.int p1), .val (.int p1), .val (.int (0 : Int32)), .unset, .unset, .unset] [(.int (1 : Int32))])) _
            refine XS.goto X0.here hx rfl (pc0 := 33) (pc' := 37) rfl (hb hby d3_33) (by decide) (by decide) ?_
            show Steps p.tables e below (s₁.setTop (mkF m 37 #[.val (.int p1), .val (.int p1), .val (.int (0 : Int32)), .unset, .unset, .unset] [(.int (1 : Int32))])) _
            refine XS.istoreN X0.here hx rfl (hb hby d3_37) rfl (l' := #[.val (.int p1), .val (.int p1), .val (.int (0 : Int32)), .val (.int (1 : Int32)), .unset, .unset]) rfl ?_
            show Steps p.tables e below (s₁.setTop (mkF m 38 #[.val (.int p1), .val (.int p1), .val (.int (0 : Int32)), .val (.int (1 : Int32)), .unset, .unset] [])) _
            refine XS.iloadN X0.here hx rfl (hb hby d3_38) rfl ?_
            show Steps p.tables e below (s₁.setTop (mkF m 39 #[.val (.int p1), .val (.int p1), .val (.int (0 : Int32)), .val (.int (1 : Int32)), .unset, .unset] [(.int p1)])) _
            refine XS.sipush X0.here hx rfl (hb hby d3_39) ?_
            show Steps p.tables e below (s₁.setTop (mkF m 42 #[.val (.int p1), .val (.int p1), .val (.int (0 : Int32)), .val (.int (1 : Int32)), .unset, .unset] [(.int (8232 : Int32)), (.int p1)])) _
            exact kt
          by_cases hc63 : p1 = (8232 : Int32)
          · have pre66 : own_Go p e below S0 (s₁.setTop (mkF m 56 #[.val (.int p1), .val (.int p1), .val (.int (0 : Int32)), .val (.int (1 : Int32)), .val (.int (1 : Int32)), .unset] [(.int (8233 : Int32)), (.int p1)])) := by
              intro t kt
              refine pre64 t ?_
              refine XS.icmpNo X0.here hx rfl (hb hby d3_42) rfl (teq hc63).2 ?_
              show Steps p.tables e below (s₁.setTop (mkF m 45 #[.val (.int p1), .val (.int p1), .val (.int (0 : Int32)), .val (.int (1 : Int32)), .unset, .unset] [])) _
              refine XS.iconst X0.here hx rfl (hb hby d3_45) ?_
              show Steps p.tables e below (s₁.setTop (mkF m 46 #[.val (.int p1), .val (.int p1), .val (.int (0 : Int32)), .val (.int (1 : Int32)), .unset, .unset] [(.int (1 : Int32))])) _
              refine XS.goto X0.here hx rfl (pc0 := 46) (pc' := 50) rfl (hb hby d3_46) (by decide) (by decide) ?_
              show Steps p.tables e below (s₁.setTop (mkF m 50 #[.val (.int p1), .val (.int p1), .val (.int (0 : Int32)), .val (.int (1 : Int32)), .unset, .unset] [(.int (1 : Int32))])) _
              refine XS.istore X0.here hx rfl (hb hby d3_50) rfl (l' := #[.val (.int p1), .val (.int p1), .val (.int (0 : Int32)), .val (.int (1 : Int32)), .val (.int (1 : Int32)), .unset]) rfl ?_
              show Steps p.tables e below (s₁.setTop (mkF m 52 #[.val (.int p1), .val (.int p1), .val (.int (0 : Int32)), .val (.int (1 : Int32)), .val (.int (1 : Int32)), .unset] [])) _
              refine XS.iloadN X0.here hx rfl (hb hby d3_52) rfl ?_
              show Steps p.tables e below (s₁.setTop (mkF m 53 #[.val (.int p1), .val (.int p1), .val (.int (0 : Int32)), .val (.int (1 : Int32)), .val (.int (1 : Int32)), .unset] [(.int p1)])) _
              refine XS.sipush X0.here hx rfl (hb hby d3_53) ?_
              show Steps p.tables e below (s₁.setTop (mkF m 56 #[.val (.int p1), .val (.int p1), .val (.int (0 : Int32)), .val (.int (1 : Int32)), .val (.int (1 : Int32)), .unset] [(.int (8233 : Int32)), (.int p1)])) _
              exact kt
            by_cases hc65 : p1 = (8233 : Int32)
            · have pre67 : own_Go p e below S0 (s₁.setTop (mkF m 89 #[.val (.int p1), .val (.int p1), .val (.int (0 : Int32)), .val (.int (1 : Int32)), .val (.int (1 : Int32)), .val (.int (1 : Int32))] [(.int (1 : Int32))])) := by
                intro t kt
                refine pre66 t ?_
                refine XS.icmpNo X0.here hx rfl (hb hby d3_56) rfl (teq hc65).2 ?_
                show Steps p.tables e below (s₁.setTop (mkF m 59 #[.val (.int p1), .val (.int p1), .val (.int (0 : Int32)), .val (.int (1 : Int32)), .val (.int (1 : Int32)), .unset] [])) _
                refine XS.iconst X0.here hx rfl (hb hby d3_59) ?_
                show Steps p.tables e below (s₁.setTop (mkF m 60 #[.val (.int p1), .val (.int p1), .val (.int (0 : Int32)), .val (.int (1 : Int32)), .val (.int (1 : Int32)), .unset] [(.int (1 : Int32))])) _
                refine XS.goto X0.here hx rfl (pc0 := 60) (pc' := 64) rfl (hb hby d3_60) (by decide) (by decide) ?_
                show Steps p.tables e below (s₁.setTop (mkF m 64 #[.val (.int p1), .val (.int p1), .val (.int (0 : Int32)), .val (.int (1 : Int32)), .val (.int (1 : Int32)), .unset] [(.int (1 : Int32))])) _
                refine XS.istore X0.here hx rfl (hb hby d3_64) rfl (l' := #[.val (.int p1), .val (.int p1), .val (.int (0 : Int32)), .val (.int (1 : Int32)), .val (.int (1 : Int32)), .val (.int (1 : Int32))]) rfl ?_
                show Steps p.tables e below (s₁.setTop (mkF m 66 #[.val (.int p1), .val (.int p1), .val (.int (0 : Int32)), .val (.int (1 : Int32)), .val (.int (1 : Int32)), .val (.int (1 : Int32))] [])) _
                refine XS.iloadN X0.here hx rfl (hb hby d3_66) rfl ?_
                show Steps p.tables e below (s₁.setTop (mkF m 67 #[.val (.int p1), .val (.int p1), .val (.int (0 : Int32)), .val (.int (1 : Int32)), .val (.int (1 : Int32)), .val (.int (1 : Int32))] [(.int (0 : Int32))])) _
                refine XS.ifNo X0.here hx rfl (hb hby d3_67) rfl ((if0 _ _).trans (teq (by decide : (0 : Int32) = (0 : Int32))).2) ?_
                show Steps p.tables e below (s₁.setTop (mkF m 70 #[.val (.int p1), .val (.int p1), .val (.int (0 : Int32)), .val (.int (1 : Int32)), .val (.int (1 : Int32)), .val (.int (1 : Int32))] [])) _
                refine XS.iloadN X0.here hx rfl (hb hby d3_70) rfl ?_
                show Steps p.tables e below (s₁.setTop (mkF m 71 #[.val (.int p1), .val (.int p1), .val (.int (0 : Int32)), .val (.int (1 : Int32)), .val (.int (1 : Int32)), .val (.int (1 : Int32))] [(.int (1 : Int32))])) _
                refine XS.ifYes X0.here hx rfl (pc0 := 71) (pc' := 84) rfl (hb hby d3_71) rfl ((if0 _ _).trans (feq (by decide : ¬ ((1 : Int32) = (0 : Int32)))).2) (by decide) (by decide) ?_
                show Steps p.tables e below (s₁.setTop (mkF m 84 #[.val (.int p1), .val (.int p1), .val (.int (0 : Int32)), .val (.int (1 : Int32)), .val (.int (1 : Int32)), .val (.int (1 : Int32))] [])) _
                refine XS.iconst X0.here hx rfl (hb hby d3_84) ?_
                show Steps p.tables e below (s₁.setTop (mkF m 85 #[.val (.int p1), .val (.int p1), .val (.int (0 : Int32)), .val (.int (1 : Int32)), .val (.int (1 : Int32)), .val (.int (1 : Int32))] [(.int (1 : Int32))])) _
                refine XS.goto X0.here hx rfl (pc0 := 85) (pc' := 89) rfl (hb hby d3_85) (by decide) (by decide) ?_
                show Steps p.tables e below (s₁.setTop (mkF m 89 #[.val (.int p1), .val (.int p1), .val (.int (0 : Int32)), .val (.int (1 : Int32)), .val (.int (1 : Int32)), .val (.int (1 : Int32))] [(.int (1 : Int32))])) _
                exact kt
              obtain ⟨fs, hr, hrun, hended, hW, hsame⟩ := X0.leave (v := some (.int (1 : Int32))) (fun h => by rw [Bd.returns] at h; cases h)
              refine ⟨_, _, fin _ (pre67 _ ?_), hrun, hended, _, _, rfl, ?_, ⟨_, rfl⟩, hW, hsame.mono (by decide) (by decide)⟩
              · exact retN X0 hx (t := .boolean) Bd.returns (by simp) (hb hby d3_89) hr
              · show Q3 Z p1 h0 n0 _ s₁.heap _
                rw [e0]
                exact ⟨(by show some _ = some _; rw [own_exp, if_neg hc1, if_pos hc37, if_neg hc39, if_neg hc51, if_pos hc63, if_pos hc65]), N0, rfl⟩
            · have pre68 : own_Go p e below S0 (s₁.setTop (mkF m 89 #[.val (.int p1), .val (.int p1), .val (.int (0 : Int32)), .val (.int (1 : Int32)), .val (.int (1 : Int32)), .val (.int (0 : Int32))] [(.int (1 : Int32))])) := by
                intro t kt
                refine pre66 t ?_
                refine XS.icmpYes X0.here hx rfl (pc0 := 56) (pc' := 63) rfl (hb hby d3_56) rfl (feq hc65).2 (by decide) (by decide) ?_
                show Steps p.tables e below (s₁.setTop (mkF m 63 #[.val (.int p1), .val (.int p1), .val (.int (0 : Int32)), .val (.int (1 : Int32)), .val (.int (1 : Int32)), .unset] [])) _
                refine XS.iconst X0.here hx rfl (hb hby d3_63) ?_
                show Steps p.tables e below (s₁.setTop (mkF m 64 #[.val (.int p1), .val (.int p1), .val (.int (0 : Int32)), .val (.int (1 : Int32)), .val (.int (1 : Int32)), .unset] [(.int (0 : Int32))])) _
                refine XS.istore X0.here hx rfl (hb hby d3_64) rfl (l' := #[.val (.int p1), .val (.int p1), .val (.int (0 : Int32)), .val (.int (1 : Int32)), .val (.int (1 : Int32)), .val (.int (0 : Int32))]) rfl ?_
                show Steps p.tables e below (s₁.setTop (mkF m 66 #[.val (.int p1), .val (.int p1), .val (.int (0 : Int32)), .val (.int (1 : Int32)), .val (.int (1 : Int32)), .val (.int (0 : Int32))] [])) _
                refine XS.iloadN X0.here hx rfl (hb hby d3_66) rfl ?_
                show Steps p.tables e below (s₁.setTop (mkF m 67 #[.val (.int p1), .val (.int p1), .val (.int (0 : Int32)), .val (.int (1 : Int32)), .val (.int (1 : Int32)), .val (.int (0 : Int32))] [(.int (0 : Int32))])) _
                refine XS.ifNo X0.here hx rfl (hb hby d3_67) rfl ((if0 _ _).trans (teq (by decide : (0 : Int32) = (0 : Int32))).2) ?_
                show Steps p.tables e below (s₁.setTop (mkF m 70 #[.val (.int p1), .val (.int p1), .val (.int (0 : Int32)), .val (.int (1 : Int32)), .val (.int (1 : Int32)), .val (.int (0 : Int32))] [])) _
                refine XS.iloadN X0.here hx rfl (hb hby d3_70) rfl ?_
                show Steps p.tables e below (s₁.setTop (mkF m 71 #[.val (.int p1), .val (.int p1), .val (.int (0 : Int32)), .val (.int (1 : Int32)), .val (.int (1 : Int32)), .val (.int (0 : Int32))] [(.int (1 : Int32))])) _
                refine XS.ifYes X0.here hx rfl (pc0 := 71) (pc' := 84) rfl (hb hby d3_71) rfl ((if0 _ _).trans (feq (by decide : ¬ ((1 : Int32) = (0 : Int32)))).2) (by decide) (by decide) ?_
                show Steps p.tables e below (s₁.setTop (mkF m 84 #[.val (.int p1), .val (.int p1), .val (.int (0 : Int32)), .val (.int (1 : Int32)), .val (.int (1 : Int32)), .val (.int (0 : Int32))] [])) _
                refine XS.iconst X0.here hx rfl (hb hby d3_84) ?_
                show Steps p.tables e below (s₁.setTop (mkF m 85 #[.val (.int p1), .val (.int p1), .val (.int (0 : Int32)), .val (.int (1 : Int32)), .val (.int (1 : Int32)), .val (.int (0 : Int32))] [(.int (1 : Int32))])) _
                refine XS.goto X0.here hx rfl (pc0 := 85) (pc' := 89) rfl (hb hby d3_85) (by decide) (by decide) ?_
                show Steps p.tables e below (s₁.setTop (mkF m 89 #[.val (.int p1), .val (.int p1), .val (.int (0 : Int32)), .val (.int (1 : Int32)), .val (.int (1 : Int32)), .val (.int (0 : Int32))] [(.int (1 : Int32))])) _
                exact kt
              obtain ⟨fs, hr, hrun, hended, hW, hsame⟩ := X0.leave (v := some (.int (1 : Int32))) (fun h => by rw [Bd.returns] at h; cases h)
              refine ⟨_, _, fin _ (pre68 _ ?_), hrun, hended, _, _, rfl, ?_, ⟨_, rfl⟩, hW, hsame.mono (by decide) (by decide)⟩
              · exact retN X0 hx (t := .boolean) Bd.returns (by simp) (hb hby d3_89) hr
              · show Q3 Z p1 h0 n0 _ s₁.heap _
                rw [e0]
                exact ⟨(by show some _ = some _; rw [own_exp, if_neg hc1, if_pos hc37, if_neg hc39, if_neg hc51, if_pos hc63, if_neg hc65]), N0, rfl⟩
          · have pre70 : own_Go p e below S0 (s₁.setTop (mkF m 56 #[.val (.int p1), .val (.int p1), .val (.int (0 : Int32)), .val (.int (1 : Int32)), .val (.int (0 : Int32)), .unset] [(.int (8233 : Int32)), (.int p1)])) := by
              intro t kt
              refine pre64 t ?_
              refine XS.icmpYes X0.here hx rfl (pc0 := 42) (pc' := 49) rfl (hb hby d3_42) rfl (feq hc63).2 (by decide) (by decide) ?_
              show Steps p.tables e below (s₁.setTop (mkF m 49 #[.val (.int p1), .val (.int p1), .val (.int (0 : Int32)), .val (.int (1 : Int32)), .unset, .unset] [])) _
              refine XS.iconst X0.here hx rfl (hb hby d3_49) ?_
              show Steps p.tables e below (s₁.setTop (mkF m 50 #[.val (.int p1), .val (.int p1), .val (.int (0 : Int32)), .val (.int (1 : Int32)), .unset, .unset] [(.int (0 : Int32))])) _
              refine XS.istore X0.here hx rfl (hb hby d3_50) rfl (l' := #[.val (.int p1), .val (.int p1), .val (.int (0 : Int32)), .val (.int (1 : Int32)), .val (.int (0 : Int32)), .unset]) rfl ?_
              show Steps p.tables e below (s₁.setTop (mkF m 52 #[.val (.int p1), .val (.int p1), .val (.int (0 : Int32)), .val (.int (1 : Int32)), .val (.int (0 : Int32)), .unset] [])) _
              refine XS.iloadN X0.here hx rfl (hb hby d3_52) rfl ?_
              show Steps p.tables e below (s₁.setTop (mkF m 53 #[.val (.int p1), .val (.int p1), .val (.int (0 : Int32)), .val (.int (1 : Int32)), .val (.int (0 : Int32)), .unset] [(.int p1)])) _
              refine XS.sipush X0.here hx rfl (hb hby d3_53) ?_
              show Steps p.tables e below (s₁.setTop (mkF m 56 #[.val (.int p1), .val (.int p1), .val (.int (0 : Int32)), .val (.int (1 : Int32)), .val (.int (0 : Int32)), .unset] [(.int (8233 : Int32)), (.int p1)])) _
              exact kt
            by_cases hc69 : p1 = (8233 : Int32)
            · have pre71 : own_Go p e below S0 (s₁.setTop (mkF m 89 #[.val (.int p1), .val (.int p1), .val (.int (0 : Int32)), .val (.int (1 : Int32)), .val (.int (0 : Int32)), .val (.int (1 : Int32))] [(.int (1 : Int32))])) := by
                intro t kt
                refine pre70 t ?_
                refine XS.icmpNo X0.here hx rfl (hb hby d3_56) rfl (teq hc69).2 ?_
                show Steps p.tables e below (s₁.setTop (mkF m 59 #[.val (.int p1), .val (.int p1), .val (.int (0 : Int32)), .val (.int (1 : Int32)), .val (.int (0 : Int32)), .unset] [])) _
                refine XS.iconst X0.here hx rfl (hb hby d3_59) ?_
                show Steps p.tables e below (s₁.setTop (mkF m 60 #[.val (.int p1), .val (.int p1), .val (.int (0 : Int32)), .val (.int (1 : Int32)), .val (.int (0 : Int32)), .unset] [(.int (1 : Int32))])) _
                refine XS.goto X0.here hx rfl (pc0 := 60) (pc' := 64) rfl (hb hby d3_60) (by decide) (by decide) ?_
                show Steps p.tables e below (s₁.setTop (mkF m 64 #[.val (.int p1), .val (.int p1), .val (.int (0 : Int32)), .val (.int (1 : Int32)), .val (.int (0 : Int32)), .unset] [(.int (1 : Int32))])) _
                refine XS.istore X0.here hx rfl (hb hby d3_64) rfl (l' := #[.val (.int p1), .val (.int p1), .val (.int (0 : Int32)), .val (.int (1 : Int32)), .val (.int (0 : Int32)), .val (.int (1 : Int32))]) rfl ?_
                show Steps p.tables e below (s₁.setTop (mkF m 66 #[.val (.int p1), .val (.int p1), .val (.int (0 : Int32)), .val (.int (1 : Int32)), .val (.int (0 : Int32)), .val (.int (1 : Int32))] [])) _
                refine XS.iloadN X0.here hx rfl (hb hby d3_66) rfl ?_
                show Steps p.tables e below (s₁.setTop (mkF m 67 #[.val (.int p1), .val (.int p1), .val (.int (0 : Int32)), .val (.int (1 : Int32)), .val (.int (0 : Int32)), .val (.int (1 : Int32))] [(.int (0 : Int32))])) _
                refine XS.ifNo X0.here hx rfl (hb hby d3_67) rfl ((if0 _ _).trans (teq (by decide : (0 : Int32) = (0 : Int32))).2) ?_
                show Steps p.tables e below (s₁.setTop (mkF m 70 #[.val (.int p1), .val (.int p1), .val (.int (0 : Int32)), .val (.int (1 : Int32)), .val (.int (0 : Int32)), .val (.int (1 : Int32))] [])) _
                refine XS.iloadN X0.here hx rfl (hb hby d3_70) rfl ?_
                show Steps p.tables e below (s₁.setTop (mkF m 71 #[.val (.int p1), .val (.int p1), .val (.int (0 : Int32)), .val (.int (1 : Int32)), .val (.int (0 : Int32)), .val (.int (1 : Int32))] [(.int (1 : Int32))])) _
                refine XS.ifYes X0.here hx rfl (pc0 := 71) (pc' := 84) rfl (hb hby d3_71) rfl ((if0 _ _).trans (feq (by decide : ¬ ((1 : Int32) = (0 : Int32)))).2) (by decide) (by decide) ?_
                show Steps p.tables e below (s₁.setTop (mkF m 84 #[.val (.int p1), .val (.int p1), .val (.int (0 : Int32)), .val (.int (1 : Int32)), .val (.int (0 : Int32)), .val (.int (1 : Int32))] [])) _
                refine XS.iconst X0.here hx rfl (hb hby d3_84) ?_
                show Steps p.tables e below (s₁.setTop (mkF m 85 #[.val (.int p1), .val (.int p1), .val (.int (0 : Int32)), .val (.int (1 : Int32)), .val (.int (0 : Int32)), .val (.int (1 : Int32))] [(.int (1 : Int32))])) _
                refine XS.goto X0.here hx rfl (pc0 := 85) (pc' := 89) rfl (hb hby d3_85) (by decide) (by decide) ?_
                show Steps p.tables e below (s₁.setTop (mkF m 89 #[.val (.int p1), .val (.int p1), .val (.int (0 : Int32)), .val (.int (1 : Int32)), .val (.int (0 : Int32)), .val (.int (1 : Int32))] [(.int (1 : Int32))])) _
                exact kt
              obtain ⟨fs, hr, hrun, hended, hW, hsame⟩ := X0.leave (v := some (.int (1 : Int32))) (fun h => by rw [Bd.returns] at h; cases h)
              refine ⟨_, _, fin _ (pre71 _ ?_), hrun, hended, _, _, rfl, ?_, ⟨_, rfl⟩, hW, hsame.mono (by decide) (by decide)⟩
              · exact retN X0 hx (t := .boolean) Bd.returns (by simp) (hb hby d3_89) hr
              · show Q3 Z p1 h0 n0 _ s₁.heap _
                rw [e0]
                exact ⟨(by show some _ = some _; rw [own_exp, if_neg hc1, if_pos hc37, if_neg hc39, if_neg hc51, if_neg hc63, if_pos hc69]), N0, rfl⟩
            · have pre72 : own_Go p e below S0 (s₁.setTop (mkF m 89 #[.val (.int p1), .val (.int p1), .val (.int (0 : Int32)), .val (.int (1 : Int32)), .val (.int (0 : Int32)), .val (.int (0 : Int32))] [(.int (1 : Int32))])) := by
                intro t kt
                refine pre70 t ?_
                refine XS.icmpYes X0.here hx rfl (pc0 := 56) (pc' := 63) rfl (hb hby d3_56) rfl (feq hc69).2 (by decide) (by decide) ?_
                show Steps p.tables e below (s₁.setTop (mkF m 63 #[.val (.int p1), .val (.int p1), .val (.int (0 : Int32)), .val (.int (1 : Int32)), .val (.int (0 : Int32)), .unset] [])) _
                refine XS.iconst X0.here hx rfl (hb hby d3_63) ?_
                show Steps p.tables e below (s₁.setTop (mkF m 64 #[.val (.int p1), .val (.int p1), .val (.int (0 : Int32)), .val (.int (1 : Int32)), .val (.int (0 : Int32)), .unset] [(.int (0 : Int32))])) _
                refine XS.istore X0.here hx rfl (hb hby d3_64) rfl (l' := #[.val (.int p1), .val (.int p1), .val (.int (0 : Int32)), .val (.int (1 : Int32)), .val (.int (0 : Int32)), .val (.int (0 : Int32))]) rfl ?_
                show Steps p.tables e below (s₁.setTop (mkF m 66 #[.val (.int p1), .val (.int p1), .val (.int (0 : Int32)), .val (.int (1 : Int32)), .val (.int (0 : Int32)), .val (.int (0 : Int32))] [])) _
                refine XS.iloadN X0.here hx rfl (hb hby d3_66) rfl ?_
                show Steps p.tables e below (s₁.setTop (mkF m 67 #[.val (.int p1), .val (.int p1), .val (.int (0 : Int32)), .val (.int (1 : Int32)), .val (.int (0 : Int32)), .val (.int (0 : Int32))] [(.int (0 : Int32))])) _
                refine XS.ifNo X0.here hx rfl (hb hby d3_67) rfl ((if0 _ _).trans (teq (by decide : (0 : Int32) = (0 : Int32))).2) ?_
                show Steps p.tables e below (s₁.setTop (mkF m 70 #[.val (.int p1), .val (.int p1), .val (.int (0 : Int32)), .val (.int (1 : Int32)), .val (.int (0 : Int32)), .val (.int (0 : Int32))] [])) _
                refine XS.iloadN X0.here hx rfl (hb hby d3_70) rfl ?_
                show Steps p.tables e below (s₁.setTop (mkF m 71 #[.val (.int p1), .val (.int p1), .val (.int (0 : Int32)), .val (.int (1 : Int32)), .val (.int (0 : Int32)), .val (.int (0 : Int32))] [(.int (1 : Int32))])) _
                refine XS.ifYes X0.here hx rfl (pc0 := 71) (pc' := 84) rfl (hb hby d3_71) rfl ((if0 _ _).trans (feq (by decide : ¬ ((1 : Int32) = (0 : Int32)))).2) (by decide) (by decide) ?_
                show Steps p.tables e below (s₁.setTop (mkF m 84 #[.val (.int p1), .val (.int p1), .val (.int (0 : Int32)), .val (.int (1 : Int32)), .val (.int (0 : Int32)), .val (.int (0 : Int32))] [])) _
                refine XS.iconst X0.here hx rfl (hb hby d3_84) ?_
                show Steps p.tables e below (s₁.setTop (mkF m 85 #[.val (.int p1), .val (.int p1), .val (.int (0 : Int32)), .val (.int (1 : Int32)), .val (.int (0 : Int32)), .val (.int (0 : Int32))] [(.int (1 : Int32))])) _
                refine XS.goto X0.here hx rfl (pc0 := 85) (pc' := 89) rfl (hb hby d3_85) (by decide) (by decide) ?_
                show Steps p.tables e below (s₁.setTop (mkF m 89 #[.val (.int p1), .val (.int p1), .val (.int (0 : Int32)), .val (.int (1 : Int32)), .val (.int (0 : Int32)), .val (.int (0 : Int32))] [(.int (1 : Int32))])) _
                exact kt
              obtain ⟨fs, hr, hrun, hended, hW, hsame⟩ := X0.leave (v := some (.int (1 : Int32))) (fun h => by rw [Bd.returns] at h; cases h)
              refine ⟨_, _, fin _ (pre72 _ ?_), hrun, hended, _, _, rfl, ?_, ⟨_, rfl⟩, hW, hsame.mono (by decide) (by decide)⟩
              · exact retN X0 hx (t := .boolean) Bd.returns (by simp) (hb hby d3_89) hr
              · show Q3 Z p1 h0 n0 _ s₁.heap _
                rw [e0]
                exact ⟨(by show some _ = some _; rw [own_exp, if_neg hc1, if_pos hc37, if_neg hc39, if_neg hc51, if_neg hc63, if_neg hc69]), N0, rfl⟩
    · have pre74 : own_Go p e below S0 (s₁.setTop (mkF m 22 #[.val (.int p1), .val (.int p1), .val (.int (1 : Int32)), .unset, .unset, .unset] [(.int p1), (.int (127 : Int32))])) := by
        intro t kt
        refine pre38 t ?_
        refine XS.icmpNo X0.here hx rfl (hb hby d3_10) rfl (flt hc37).2.2.1 ?_
        show Steps p.tables e below (s₁.setTop (mkF m 13 #[.val (.int p1), .val (.int p1), .unset, .unset, .unset, .unset] [])) _
        refine XS.iconst X0.here hx rfl (hb hby d3_13) ?_
        show Steps p.tables e below (s₁.setTop (mkF m 14 #[.val (.int p1), .val (.int p1), .unset, .unset, .unset, .unset] [(.int (1 : Int32))])) _
        refine XS.goto X0.here hx rfl (pc0 := 14) (pc' := 18) rfl (hb hby d3_14) (by decide) (by decide) ?_
        show Steps p.tables e below (s₁.setTop (mkF m 18 #[.val (.int p1), .val (.int p1), .unset, .unset, .unset, .unset] [(.int (1 : Int32))])) _
        refine XS.istoreN X0.here hx rfl (hb hby d3_18) rfl (l' := #[.val (.int p1), .val (.int p1), .val (.int (1 : Int32)), .unset, .unset, .unset]) rfl ?_
        show Steps p.tables e below (s₁.setTop (mkF m 19 #[.val (.int p1), .val (.int p1), .val (.int (1 : Int32)), .unset, .unset, .unset] [])) _
        refine XS.bipush X0.here hx rfl (hb hby d3_19) ?_
        show Steps p.tables e below (s₁.setTop (mkF m 21 #[.val (.int p1), .val (.int p1), .val (.int (1 : Int32)), .unset, .unset, .unset] [(.int (127 : Int32))])) _
        refine XS.iloadN X0.here hx rfl (hb hby d3_21) rfl ?_
        show Steps p.tables e below (s₁.setTop (mkF m 22 #[.val (.int p1), .val (.int p1), .val (.int (1 : Int32)), .unset, .unset, .unset] [(.int p1), (.int (127 : Int32))])) _
        exact kt
      by_cases hc73 : p1 < (127 : Int32)
      · have pre76 : own_Go p e below S0 (s₁.setTop (mkF m 42 #[.val (.int p1), .val (.int p1), .val (.int (1 : Int32)), .val (.int (0 : Int32)), .unset, .unset] [(.int (8232 : Int32)), (.int p1)])) := by
          intro t kt
          refine pre74 t ?_
          refine XS.icmpYes X0.here hx rfl (pc0 := 22) (pc' := 36) rfl (hb hby d3_22) rfl (tlt hc73).2.2.1 (by decide) (by decide) ?_
          show Steps p.tables e below (s₁.setTop (mkF m 36 #[.val (.int p1), .val (.int p1), .val (.int (1 : Int32)), .unset, .unset, .unset] [])) _
          refine XS.iconst X0.here hx rfl (hb hby d3_36) ?_
          show Steps p.tables e below (s₁.setTop (mkF m 37 #[.val (.int p1), .val (.int p1), .val (.int (1 : Int32)), .unset, .unset, .unset] [(.int (0 : Int32))])) _
          refine XS.istoreN X0.here hx rfl (hb hby d3_37) rfl (l' := #[.val (.int p1), .val (.int p1), .val (.int (1 : Int32)), .val (.int (0 : Int32)), .unset, .unset]) rfl ?_
          show Steps p.tables e below (s₁.setTop (mkF m 38 #[.val (.int p1), .val (.int p1), .val (.int (1 : Int32)), .val (.int (0 : Int32)), .unset, .unset] [])) _
          refine XS.iloadN X0.here hx rfl (hb hby d3_38) rfl ?_
          show Steps p.tables e below (s₁.setTop (mkF m 39 #[.val (.int p1), .val (.int p1), .val (.int (1 : Int32)), .val (.int (0 : Int32)), .unset, .unset] [(.int p1)])) _
          refine XS.sipush X0.here hx rfl (hb hby d3_39) ?_
          show Steps p.tables e below (s₁.setTop (mkF m 42 #[.val (.int p1), .val (.int p1), .val (.int (1 : Int32)), .val (.int (0 : Int32)), .unset, .unset] [(.int (8232 : Int32)), (.int p1)])) _
          exact kt
        by_cases hc75 : p1 = (8232 : Int32)
        · have pre78 : own_Go p e below S0 (s₁.setTop (mkF m 56 #[.val (.int p1), .val (.int p1), .val (.int (1 : Int32)), .val (.int (0 : Int32)), .val (.int (1 : Int32)), .unset] [(.int (8233 : Int32)), (.int p1)])) := by
            intro t kt
            refine pre76 t ?_
            refine XS.icmpNo X0.here hx rfl (hb hby d3_42) rfl (teq hc75).2 ?_
            show Steps p.tables e below (s₁.setTop (mkF m 45 #[.val (.int p1), .val (.int p1), .val (.int (1 : Int32)), .val (.int (0 : Int32)), .unset, .unset] [])) _
            refine XS.iconst X0.here hx rfl (hb hby d3_45) ?_
            show Steps p.tables e below (s₁.setTop (mkF m 46 #[.val (.int p1), .val (.int p1), .val (.int (1 : Int32)), .val (.int (0 : Int32)), .unset, .unset] [(.int (1 : Int32))])) _
            refine XS.goto X0.here hx rfl (pc0 := 46) (pc' := 50) rfl (hb hby d3_46) (by decide) (by decide) ?_
            show Steps p.tables e below (s₁.setTop (mkF m 50 #[.val (.int p1), .val (.int p1), .val (.int (1 : Int32)), .val (.int (0 : Int32)), .unset, .unset] [(.int (1 : Int32))])) _
            refine XS.istore X0.here hx rfl (hb hby d3_50) rfl (l' := #[.val (.int p1), .val (.int p1), .val (.int (1 : Int32)), .val (.int (0 : Int32)), .val (.int (1 : Int32)), .unset]) rfl ?_
            show Steps p.tables e below (s₁.setTop (mkF m 52 #[.val (.int p1), .val (.int p1), .val (.int (1 : Int32)), .val (.int (0 : Int32)), .val (.int (1 : Int32)), .unset] [])) _
            refine XS.iloadN X0.here hx rfl (hb hby d3_52) rfl ?_
            show Steps p.tables e below (s₁.setTop (mkF m 53 #[.val (.int p1), .val (.int p1), .val (.int (1 : Int32)), .val (.int (0 : Int32)), .val (.int (1 : Int32)), .unset] [(.int p1)])) _
            refine XS.sipush X0.here hx rfl (hb hby d3_53) ?_
            show Steps p.tables e below (s₁.setTop (mkF m 56 #[.val (.int p1), .val (.int p1), .val (.int (1 : Int32)), .val (.int (0 : Int32)), .val (.int (1 : Int32)), .unset] [(.int (8233 : Int32)), (.int p1)])) _
            exact kt
          by_cases hc77 : p1 = (8233 : Int32)
          · have pre79 : own_Go p e below S0 (s₁.setTop (mkF m 89 #[.val (.int p1), .val (.int p1), .val (.int (1 : Int32)), .val (.int (0 : Int32)), .val (.int (1 : Int32)), .val (.int (1 : Int32))] [(.int (1 : Int32))])) := by
              intro t kt
              refine pre78 t ?_
              refine XS.icmpNo X0.here hx rfl (hb hby d3_56) rfl (teq hc77).2 ?_
              show Steps p.tables e below (s₁.setTop (mkF m 59 #[.val (.int p1), .val (.int p1), .val (.int (1 : Int32)), .val (.int (0 : Int32)), .val (.int (1 : Int32)), .unset] [])) _
              refine XS.iconst X0.here hx rfl (hb hby d3_59) ?_
              show Steps p.tables e below (s₁.setTop (mkF m 60 #[.val (.int p1), .val (.int p1), .val (.int (1 : Int32)), .val (.int (0 : Int32)), .val (.int (1 : Int32)), .unset] [(.int (1 : Int32))])) _
              refine XS.goto X0.here hx rfl (pc0 := 60) (pc' := 64) rfl (hb hby d3_60) (by decide) (by decide) ?_
              show Steps p.tables e below (s₁.setTop (mkF m 64 #[.val (.int p1), .val (.int p1), .val (.int (1 : Int32)), .val (.int (0 : Int32)), .val (.int (1 : Int32)), .unset] [(.int (1 : Int32))])) _
              refine XS.istore X0.here hx rfl (hb hby d3_64) rfl (l' := #[.val (.int p1), .val (.int p1), .val (.int (1 : Int32)), .val (.int (0 : Int32)), .val (.int (1 : Int32)), .val (.int (1 : Int32))]) rfl ?_
              show Steps p.tables e below (s₁.setTop (mkF m 66 #[.val (.int p1), .val (.int p1), .val (.int (1 : Int32)), .val (.int (0 : Int32)), .val (.int (1 : Int32)), .val (.int (1 : Int32))] [])) _
              refine XS.iloadN X0.here hx rfl (hb hby d3_66) rfl ?_
              show Steps p.tables e below (s₁.setTop (mkF m 67 #[.val (.int p1), .val (.int p1), .val (.int (1 : Int32)), .val (.int (0 : Int32)), .val (.int (1 : Int32)), .val (.int (1 : Int32))] [(.int (1 : Int32))])) _
              refine XS.ifYes X0.here hx rfl (pc0 := 67) (pc' := 84) rfl (hb hby d3_67) rfl ((if0 _ _).trans (feq (by decide : ¬ ((1 : Int32) = (0 : Int32)))).2) (by decide) (by decide) ?_
              show Steps p.tables e below (s₁.setTop (mkF m 84 #[.val (.int p1), .val (.int p1), .val (.int (1 : Int32)), .val (.int (0 : Int32)), .val (.int (1 : Int32)), .val (.int (1 : Int32))] [])) _
              refine XS.iconst X0.here hx rfl (hb hby d3_84) ?_
              show Steps p.tables e below (s₁.setTop (mkF m 85 #[.val (.int p1), .val (.int p1), .val (.int (1 : Int32)), .val (.int (0 : Int32)), .val (.int (1 : Int32)), .val (.int (1 : Int32))] [(.int (1 : Int32))])) _
              refine XS.goto X0.here hx rfl (pc0 := 85) (pc' := 89) rfl (hb hby d3_85) (by decide) (by decide) ?_
              show Steps p.tables e below (s₁.setTop (mkF m 89 #[.val (.int p1), .val (.int p1), .val (.int (1 : Int32)), .val (.int (0 : Int32)), .val (.int (1 : Int32)), .val (.int (1 : Int32))] [(.int (1 : Int32))])) _
              exact kt
            obtain ⟨fs, hr, hrun, hended, hW, hsame⟩ := X0.leave (v := some (.int (1 : Int32))) (fun h => by rw [Bd.returns] at h; cases h)
            refine ⟨_, _, fin _ (pre79 _ ?_), hrun, hended, _, _, rfl, ?_, ⟨_, rfl⟩, hW, hsame.mono (by decide) (by decide)⟩
            · exact retN X0 hx (t := .boolean) Bd.returns (by simp) (hb hby d3_89) hr
            · show Q3 Z p1 h0 n0 _ s₁.heap _
              rw [e0]
              exact ⟨(by show some _ = some _; rw [own_exp, if_neg hc1, if_neg hc37, if_pos hc73, if_pos hc75, if_pos hc77]), N0, rfl⟩
          · have pre80 : own_Go p e below S0 (s₁.setTop (mkF m 89 #[.val (.int p1), .val (.int p1), .val (.int (1 : Int32)), .val (.int (0 : Int32)), .val (.int (1 : Int32)), .val (.int (0 : Int32))] [(.int (1 : Int32))])) := by
              intro t kt
              refine pre78 t ?_
              refine XS.icmpYes X0.here hx rfl (pc0 := 56) (pc' := 63) rfl (hb hby d3_56) rfl (feq hc77).2 (by decide) (by decide) ?_
              show Steps p.tables e below (s₁.setTop (mkF m 63 #[.val (.int p1), .val (.int p1), .val (.int (1 : Int32)), .val (.int (0 : Int32)), .val (.int (1 : Int32)), .unset] [])) _
              refine XS.iconst X0.here hx rfl (hb hby d3_63) ?_
              show Steps p.tables e below (s₁.setTop (mkF m 64 #[.val (.int p1), .val (.int p1), .val (.int (1 : Int32)), .val (.int (0 : Int32)), .val (.int (1 : Int32)), .unset] [(.int (0 : Int32))])) _
              refine XS.istore X0.here hx rfl (hb hby d3_64) rfl (l' := #[.val (.int p1), .val (.int p1), .val (.int (1 : Int32)), .val (.int (0 : Int32)), .val (.int (1 : Int32)), .val (.int (0 : Int32))]) rfl ?_
              show Steps p.tables e below (s₁.setTop (mkF m 66 #[.val (.int p1), .val (.int p1), .val (.int (1 : Int32)), .val (.int (0 : Int32)), .val (.int (1 : Int32)), .val (.int (0 : Int32))] [])) _
              refine XS.iloadN X0.here hx rfl (hb hby d3_66) rfl ?_
              show Steps p.tables e below (s₁.setTop (mkF m 67 #[.val (.int p1), .val (.int p1), .val (.int (1 : Int32)), .val (.int (0 : Int32)), .val (.int (1 : Int32)), .val (.int (0 : Int32))] [(.int (1 : Int32))])) _
              refine XS.ifYes X0.here hx rfl (pc0 := 67) (pc' := 84) rfl (hb hby d3_67) rfl ((if0 _ _).trans (feq (by decide : ¬ ((1 : Int32) = (0 : Int32)))).2) (by decide) (by decide) ?_
              show Steps p.tables e below (s₁.setTop (mkF m 84 #[.val (.int p1), .val (.int p1), .val (.int (1 : Int32)), .val (.int (0 : Int32)), .val (.int (1 : Int32)), .val (.int (0 : Int32))] [])) _
              refine XS.iconst X0.here hx rfl (hb hby d3_84) ?_
              show Steps p.tables e below (s₁.setTop (mkF m 85 #[.val (.int p1), .val (.int p1), .val (.int (1 : Int32)), .val (.int (0 : Int32)), .val (.int (1 : Int32)), .val (.int (0 : Int32))] [(.int (1 : Int32))])) _
              refine XS.goto X0.here hx rfl (pc0 := 85) (pc' := 89) rfl (hb hby d3_85) (by decide) (by decide) ?_
              show Steps p.tables e below (s₁.setTop (mkF m 89 #[.val (.int p1), .val (.int p1), .val (.int (1 : Int32)), .val (.int (0 : Int32)), .val (.int (1 : Int32)), .val (.int (0 : Int32))] [(.int (1 : Int32))])) _
              exact kt
            obtain ⟨fs, hr, hrun, hended, hW, hsame⟩ := X0.leave (v := some (.int (1 : Int32))) (fun h => by rw [Bd.returns] at h; cases h)
            refine ⟨_, _, fin _ (pre80 _ ?_), hrun, hended, _, _, rfl, ?_, ⟨_, rfl⟩, hW, hsame.mono (by decide) (by decide)⟩
            · exact retN X0 hx (t := .boolean) Bd.returns (by simp) (hb hby d3_89) hr
            · show Q3 Z p1 h0 n0 _ s₁.heap _
              rw [e0]
              exact ⟨(by show some _ = some _; rw [own_exp, if_neg hc1, if_neg hc37, if_pos hc73, if_pos hc75, if_neg hc77]), N0, rfl⟩
        · have pre82 : own_Go p e below S0 (s₁.setTop (mkF m 56 #[.val (.int p1), .val (.int p1), .val (.int (1 : Int32)), .val (.int (0 : Int32)), .val (.int (0 : Int32)), .unset] [(.int (8233 : Int32)), (.int p1)])) := by
            intro t kt
            refine pre76 t ?_
            refine XS.icmpYes X0.here hx rfl (pc0 := 42) (pc' := 49) rfl (hb hby d3_42) rfl (feq hc75).2 (by decide) (by decide) ?_
            show Steps p.tables e below (s₁.setTop (mkF m 49 #[.val (.int p1), .val (.int p1), .val (.int (1 : Int32)), .val (.int (0 : Int32)), .unset, .unset] [])) _
            refine XS.iconst X0.here hx rfl (hb hby d3_49) ?_
            show Steps p.tables e below (s₁.setTop (mkF m 50 #[.val (.int p1), .val (.int p1), .val (.int (1 : Int32)), .val (.int (0 : Int32)), .unset, .unset] [(.int (0 : Int32))])) _
            refine XS.istore X0.here hx rfl (hb hby d3_50) rfl (l' := #[.val (.int p1), .val (.int p1), .val (.int (1 : Int32)), .val (.int (0 : Int32)), .val (.int (0 : Int32)), .unset]) rfl ?_
            show Steps p.tables e below (s₁.setTop (mkF m 52 #[.val (.int p1), .val (.int p1), .val (.int (1 : Int32)), .val (.int (0 : Int32)), .val (.int (0 : Int32)), .unset] [])) _
            refine XS.iloadN X0.here hx rfl (hb hby d3_52) rfl ?_
            show Steps p.tables e below (s₁.setTop (mkF m 53 #[.val (.int p1), .val (.int p1), .val (.int (1 : Int32)), .val (.int (0 : Int32)), .val (.int (0 : Int32)), .unset] [(.int p1)])) _
            refine XS.sipush X0.here hx rfl (hb hby d3_53) ?_
            show Steps p.tables e below (s₁.setTop (mkF m 56 #[.val (.int p1), .val (.int p1), .val (.int (1 : Int32)), .val (.int (0 : Int32)), .val (.int (0 : Int32)), .unset] [(.int (8233 : Int32)), (.int p1)])) _
            exact kt
          by_cases hc81 : p1 = (8233 : Int32)
          · have pre83 : own_Go p e below S0 (s₁.setTop (mkF m 89 #[.val (.int p1), .val (.int p1), .val (.int (1 : Int32)), .val (.int (0 : Int32)), .val (.int (0 : Int32)), .val (.int (1 : Int32))] [(.int (1 : Int32))])) := by
              intro t kt
              refine pre82 t ?_
              refine XS.icmpNo X0.here hx rfl (hb hby d3_56) rfl (teq hc81).2 ?_
              show Steps p.tables e below (s₁.setTop (mkF m 59 #[.val (.int p1), .val (.int p1), .val (.int (1 : Int32)), .val (.int (0 : Int32)), .val (.int (0 : Int32)), .unset] [])) _
              refine XS.iconst X0.here hx rfl (hb hby d3_59) ?_
              show Steps p.tables e below (s₁.setTop (mkF m 60 #[.val (.int p1), .val (.int p1), .val (.int (1 : Int32)), .val (.int (0 : Int32)), .val (.int (0 : Int32)), .unset] [(.int (1 : Int32))])) _
              refine XS.goto X0.here hx rfl (pc0 := 60) (pc' := 64) rfl (hb hby d3_60) (by decide) (by decide) ?_
              show Steps p.tables e below (s₁.setTop (mkF m 64 #[.val (.int p1), .val (.int p1), .val (.int (1 : Int32)), .val (.int (0 : Int32)), .val (.int (0 : Int32)), .unset] [(.int (1 : Int32))])) _
              refine XS.istore X0.here hx rfl (hb hby d3_64) rfl (l' := #[.val (.int p1), .val (.int p1), .val (.int (1 : Int32)), .val (.int (0 : Int32)), .val (.int (0 : Int32)), .val (.int (1 : Int32))]) rfl ?_
              show Steps p.tables e below (s₁.setTop (mkF m 66 #[.val (.int p1), .val (.int p1), .val (.int (1 : Int32)), .val (.int (0 : Int32)), .val (.int (0 : Int32)), .val (.int (1 : Int32))] [])) _
              refine XS.iloadN X0.here hx rfl (hb hby d3_66) rfl ?_
              show Steps p.tables e below (s₁.setTop (mkF m 67 #[.val (.int p1), .val (.int p1), .val (.int (1 : Int32)), .val (.int (0 : Int32)), .val (.int (0 : Int32)), .val (.int (1 : Int32))] [(.int (1 : Int32))])) _
              refine XS.ifYes X0.here hx rfl (pc0 := 67) (pc' := 84) rfl (hb hby d3_67) rfl ((if0 _ _).trans (feq (by decide : ¬ ((1 : Int32) = (0 : Int32)))).2) (by decide) (by decide) ?_
              show Steps p.tables e below (s₁.setTop (mkF m 84 #[.val (.int p1), .val (.int p1), .val (.int (1 : Int32)), .val (.int (0 : Int32)), .val (.int (0 : Int32)), .val (.int (1 : Int32))] [])) _
              refine XS.iconst X0.here hx rfl (hb hby d3_84) ?_
              show Steps p.tables e below (s₁.setTop (mkF m 85 #[.val (.int p1), .val (.int p1), .val (.int (1 : Int32)), .val (.int (0 : Int32)), .val (.int (0 : Int32)), .val (.int (1 : Int32))] [(.int (1 : Int32))])) _
              refine XS.goto X0.here hx rfl (pc0 := 85) (pc' := 89) rfl (hb hby d3_85) (by decide) (by decide) ?_
              show Steps p.tables e below (s₁.setTop (mkF m 89 #[.val (.int p1), .val (.int p1), .val (.int (1 : Int32)), .val (.int (0 : Int32)), .val (.int (0 : Int32)), .val (.int (1 : Int32))] [(.int (1 : Int32))])) _
              exact kt
            obtain ⟨fs, hr, hrun, hended, hW, hsame⟩ := X0.leave (v := some (.int (1 : Int32))) (fun h => by rw [Bd.returns] at h; cases h)
            refine ⟨_, _, fin _ (pre83 _ ?_), hrun, hended, _, _, rfl, ?_, ⟨_, rfl⟩, hW, hsame.mono (by decide) (by decide)⟩
            · exact retN X0 hx (t := .boolean) Bd.returns (by simp) (hb hby d3_89) hr
            · show Q3 Z p1 h0 n0 _ s₁.heap _
              rw [e0]
              exact ⟨(by show some _ = some _; rw [own_exp, if_neg hc1, if_neg hc37, if_pos hc73, if_neg hc75, if_pos hc81]), N0, rfl⟩
          · have pre84 : own_Go p e below S0 (s₁.setTop (mkF m 89 #[.val (.int p1), .val (.int p1), .val (.int (1 : Int32)), .val (.int (0 : Int32)), .val (.int (0 : Int32)), .val (.int (0 : Int32))] [(.int (1 : Int32))])) := by
              intro t kt
              refine pre82 t ?_
              refine XS.icmpYes X0.here hx rfl (pc0 := 56) (pc' := 63) rfl (hb hby d3_56) rfl (feq hc81).2 (by decide) (by decide) ?_
              show Steps p.tables e below (s₁.setTop (mkF m 63 #[.val (.int p1), .val (.int p1), .val (.int (1 : Int32)), .val (.int (0 : Int32)), .val (.int (0 : Int32)), .unset] [])) _
              refine XS.iconst X0.here hx rfl (hb hby d3_63) ?_
              show Steps p.tables e below (s₁.setTop (mkF m 64 #[.val (.int p1), .val (.int p1), .val (.int (1 : Int32)), .val (.int (0 : Int32)), .val (.int (0 : Int32)), .unset] [(.int (0 : Int32))])) _
              refine XS.istore X0.here hx rfl (hb hby d3_64) rfl (l' := #[.val (.int p1), .val (.int p1), .val (.int (1 : Int32)), .val (.int (0 : Int32)), .val (.int (0 : Int32)), .val (.int (0 : Int32))]) rfl ?_
              show Steps p.tables e below (s₁.setTop (mkF m 66 #[.val (.int p1), .val (.int p1), .val (.int (1 : Int32)), .val (.int (0 : Int32)), .val (.int (0 : Int32)), .val (.int (0 : Int32))] [])) _
              refine XS.iloadN X0.here hx rfl (hb hby d3_66) rfl ?_
              show Steps p.tables e below (s₁.setTop (mkF m 67 #[.val (.int p1), .val (.int p1), .val (.int (1 : Int32)), .val (.int (0 : Int32)), .val (.int (0 : Int32)), .val (.int (0 : Int32))] [(.int (1 : Int32))])) _
              refine XS.ifYes X0.here hx rfl (pc0 := 67) (pc' := 84) rfl (hb hby d3_67) rfl ((if0 _ _).trans (feq (by decide : ¬ ((1 : Int32) = (0 : Int32)))).2) (by decide) (by decide) ?_
              show Steps p.tables e below (s₁.setTop (mkF m 84 #[.val (.int p1), .val (.int p1), .val (.int (1 : Int32)), .val (.int (0 : Int32)), .val (.int (0 : Int32)), .val (.int (0 : Int32))] [])) _
              refine XS.iconst X0.here hx rfl (hb hby d3_84) ?_
              show Steps p.tables e below (s₁.setTop (mkF m 85 #[.val (.int p1), .val (.int p1), .val (.int (1 : Int32)), .val (.int (0 : Int32)), .val (.int (0 : Int32)), .val (.int (0 : Int32))] [(.int (1 : Int32))])) _
              refine XS.goto X0.here hx rfl (pc0 := 85) (pc' := 89) rfl (hb hby d3_85) (by decide) (by decide) ?_
              show Steps p.tables e below (s₁.setTop (mkF m 89 #[.val (.int p1), .val (.int p1), .val (.int (1 : Int32)), .val (.int (0 : Int32)), .val (.int (0 : Int32)), .val (.int (0 : Int32))] [(.int (1 : Int32))])) _
              exact kt
            obtain ⟨fs, hr, hrun, hended, hW, hsame⟩ := X0.leave (v := some (.int (1 : Int32))) (fun h => by rw [Bd.returns] at h; cases h)
            refine ⟨_, _, fin _ (pre84 _ ?_), hrun, hended, _, _, rfl, ?_, ⟨_, rfl⟩, hW, hsame.mono (by decide) (by decide)⟩
            · exact retN X0 hx (t := .boolean) Bd.returns (by simp) (hb hby d3_89) hr
            · show Q3 Z p1 h0 n0 _ s₁.heap _
              rw [e0]
              exact ⟨(by show some _ = some _; rw [own_exp, if_neg hc1, if_neg hc37, if_pos hc73, if_neg hc75, if_neg hc81]), N0, rfl⟩
      · have pre86 : own_Go p e below S0 (s₁.setTop (mkF m 29 #[.val (.int p1), .val (.int p1), .val (.int (1 : Int32)), .unset, .unset, .unset] [(.int (159 : Int32)), (.int p1)])) := by
          intro t kt
          refine pre74 t ?_
          refine XS.icmpNo X0.here hx rfl (hb hby d3_22) rfl (flt hc73).2.2.1 ?_
          show Steps p.tables e below (s₁.setTop (mkF m 25 #[.val (.int p1), .val (.int p1), .val (.int (1 : Int32)), .unset, .unset, .unset] [])) _
          refine XS.iloadN X0.here hx rfl (hb hby d3_25) rfl ?_
          show Steps p.tables e below (s₁.setTop (mkF m 26 #[.val (.int p1), .val (.int p1), .val (.int (1 : Int32)), .unset, .unset, .unset] [(.int p1)])) _
          refine XS.sipush X0.here hx rfl (hb hby d3_26) ?_
          show Steps p.tables e below (s₁.setTop (mkF m 29 #[.val (.int p1), .val (.int p1), .val (.int (1 : Int32)), .unset, .unset, .unset] [(.int (159 : Int32)), (.int p1)])) _
          exact kt
        by_cases hc85 : (159 : Int32) < p1
        · have pre88 : own_Go p e below S0 (s₁.setTop (mkF m 42 #[.val (.int p1), .val (.int p1), .val (.int (1 : Int32)), .val (.int (0 : Int32)), .unset, .unset] [(.int (8232 : Int32)), (.int p1)])) := by
            intro t kt
            refine pre86 t ?_
            refine XS.icmpYes X0.here hx rfl (pc0 := 29) (pc' := 36) rfl (hb hby d3_29) rfl (tlt hc85).2.2.1 (by decide) (by decide) ?_
            show Steps p.tables e below (s₁.setTop (mkF m 36 #[.val (.int p1), .val (.int p1), .val (.int (1 : Int32)), .unset, .unset, .unset] [])) _
            refine XS.iconst X0.here hx rfl (hb hby d3_36) ?_
            show Steps p.tables e below (s₁.setTop (mkF m 37 #[.val (.int p1), .val (.int p1), .val (.int (1 : Int32)), .unset, .unset, .unset] [(.int (0 : Int32))])) _
            refine XS.istoreN X0.here hx rfl (hb hby d3_37) rfl (l' := #[.val (.int p1), .val (.int p1), .val (.int (1 : Int32)), .val (.int (0 : Int32)), .unset, .unset]) rfl ?_
            show Steps p.tables e below (s₁.setTop (mkF m 38 #[.val (.int p1), .val (.int p1), .val (.int (1 : Int32)), .val (.int (0 : Int32)), .unset, .unset] [])) _
            refine XS.iloadN X0.here hx rfl (hb hby d3_38) rfl ?_
            show Steps p.tables e below (s₁.setTop (mkF m 39 #[.val (.int p1), .val (.int p1), .val (.int (1 : Int32)), .val (.int (0 : Int32)), .unset, .unset] [(.int p1)])) _
            refine XS.sipush X0.here hx rfl (hb hby d3_39) ?_
            show Steps p.tables e below (s₁.setTop (mkF m 42 #[.val (.int p1), .val (.int p1), .val (.int (1 : Int32)), .val (.int (0 : Int32)), .unset, .unset] [(.int (8232 : Int32)), (.int p1)])) _
            exact kt
          by_cases hc87 : p1 = (8232 : Int32)
          · have pre90 : own_Go p e below S0 (s₁.setTop (mkF m 56 #[.val (.int p1), .val (.int p1), .val (.int (1 : Int32)), .val (.int (0 : Int32)), .val (.int (1 : Int32)), .unset] [(.int (8233 : Int32)), (.int p1)])) := by
              intro t kt
              refine pre88 t ?_
              refine XS.icmpNo X0.here hx rfl (hb hby d3_42) rfl (teq hc87).2 ?_
              show Steps p.tables e below (s₁.setTop (mkF m 45 #[.val (.int p1), .val (.int p1), .val (.int (1 : Int32)), .val (.int (0 : Int32)), .unset, .unset] [])) _
              refine XS.iconst X0.here hx rfl (hb hby d3_45) ?_
              show Steps p.tables e below (s₁.setTop (mkF m 46 #[.val (.int p1), .val (.int p1), .val (.int (1 : Int32)), .val (.int (0 : Int32)), .unset, .unset] [(.int (1 : Int32))])) _
              refine XS.goto X0.here hx rfl (pc0 := 46) (pc' := 50) rfl (hb hby d3_46) (by decide) (by decide) ?_
              show Steps p.tables e below (s₁.setTop (mkF m 50 #[.val (.int p1), .val (.int p1), .val (.int (1 : Int32)), .val (.int (0 : Int32)), .unset, .unset] [(.int (1 : Int32))])) _
              refine XS.istore X0.here hx rfl (hb hby d3_50) rfl (l' := #[.val (.int p1), .val (.int p1), .val (.int (1 : Int32)), .val (.int (0 : Int32)), .val (.int (1 : Int32)), .unset]) rfl ?_
              show Steps p.tables e below (s₁.setTop (mkF m 52 #[.val (.int p1), .val (.int p1), .val (.int (1 : Int32)), .val (.int (0 : Int32)), .val (.int (1 : Int32)), .unset] [])) _
              refine XS.iloadN X0.here hx rfl (hb hby d3_52) rfl ?_
              show Steps p.tables e below (s₁.setTop (mkF m 53 #[.val (.int p1), .val (.int p1), .val (.int (1 : Int32)), .val (.int (0 : Int32)), .val (.int (1 : Int32)), .unset] [(.int p1)])) _
              refine XS.sipush X0.here hx rfl (hb hby d3_53) ?_
              show Steps p.tables e below (s₁.setTop (mkF m 56 #[.val (.int p1), .val (.int p1), .val (.int (1 : Int32)), .val (.int (0 : Int32)), .val (.int (1 : Int32)), .unset] [(.int (8233 : Int32)), (.int p1)])) _
              exact kt
            by_cases hc89 : p1 = (8233 : Int32)
            · have pre91 : own_Go p e below S0 (s₁.setTop (mkF m 89 #[.val (.int p1), .val (.int p1), .val (.int (1 : Int32)), .val (.int (0 : Int32)), .val (.int (1 : Int32)), .val (.int (1 : Int32))] [(.int (1 : Int32))])) := by
                intro t kt
                refine pre90 t ?_
                refine XS.icmpNo X0.here hx rfl (hb hby d3_56) rfl (teq hc89).2 ?_
                show Steps p.tables e below (s₁.setTop (mkF m 59 #[.val (.int p1), .val (.int p1), .val (.int (1 : Int32)), .val (.int (0 : Int32)), .val (.int (1 : Int32)), .unset] [])) _
                refine XS.iconst X0.here hx rfl (hb hby d3_59) ?_
                show Steps p.tables e below (s₁.setTop (mkF m 60 #[.val (.int p1), .val (.int p1), .val (.int (1 : Int32)), .val (.int (0 : Int32)), .val (.int (1 : Int32)), .unset] [(.int (1 : Int32))])) _
                refine XS.goto X0.here hx rfl (pc0 := 60) (pc' := 64) rfl (hb hby d3_60) (by decide) (by decide) ?_
                show Steps p.tables e below (s₁.setTop (mkF m 64 #[.val (.int p1), .val (.int p1), .val (.int (1 : Int32)), .val (.int (0 : Int32)), .val (.int (1 : Int32)), .unset] [(.int (1 : Int32))])) _
                refine XS.istore X0.here hx rfl (hb hby d3_64) rfl (l' := #[.val (.int p1), .val (.int p1), .val (.int (1 : Int32)), .val (.int (0 : Int32)), .val (.int (1 : Int32)), .val (.int (1 : Int32))]) rfl ?_
                show Steps p.tables e below (s₁.setTop (mkF m 66 #[.val (.int p1), .val (.int p1), .val (.int (1 : Int32)), .val (.int (0 : Int32)), .val (.int (1 : Int32)), .val (.int (1 : Int32))] [])) _
                refine XS.iloadN X0.here hx rfl (hb hby d3_66) rfl ?_
                show Steps p.tables e below (s₁.setTop (mkF m 67 #[.val (.int p1), .val (.int p1), .val (.int (1 : Int32)), .val (.int (0 : Int32)), .val (.int (1 : Int32)), .val (.int (1 : Int32))] [(.int (1 : Int32))])) _
                refine XS.ifYes X0.here hx rfl (pc0 := 67) (pc' := 84) rfl (hb hby d3_67) rfl ((if0 _ _).trans (feq (by decide : ¬ ((1 : Int32) = (0 : Int32)))).2) (by decide) (by decide) ?_
                show Steps p.tables e below (s₁.setTop (mkF m 84 #[.val (.int p1), .val (.int p1), .val (.int (1 : Int32)), .val (.int (0 : Int32)), .val (.int (1 : Int32)), .val (.int (1 : Int32))] [])) _
                refine XS.iconst X0.here hx rfl (hb hby d3_84) ?_
                show Steps p.tables e below (s₁.setTop (mkF m 85 #[.val (.int p1), .val (.int p1), .val (.int (1 : Int32)), .val (.int (0 : Int32)), .val (.int (1 : Int32)), .val (.int (1 : Int32))] [(.int (1 : Int32))])) _
                refine XS.goto X0.here hx rfl (pc0 := 85) (pc' := 89) rfl (hb hby d3_85) (by decide) (by decide) ?_
                show Steps p.tables e below (s₁.setTop (mkF m 89 #[.val (.int p1), .val (.int p1), .val (.int (1 : Int32)), .val (.int (0 : Int32)), .val (.int (1 : Int32)), .val (.int (1 : Int32))] [(.int (1 : Int32))])) _
                exact kt
              obtain ⟨fs, hr, hrun, hended, hW, hsame⟩ := X0.leave (v := some (.int (1 : Int32))) (fun h => by rw [Bd.returns] at h; cases h)
              refine ⟨_, _, fin _ (pre91 _ ?_), hrun, hended, _, _, rfl, ?_, ⟨_, rfl⟩, hW, hsame.mono (by decide) (by decide)⟩
              · exact retN X0 hx (t := .boolean) Bd.returns (by simp) (hb hby d3_89) hr
              · show Q3 Z p1 h0 n0 _ s₁.heap _
                rw [e0]
                exact ⟨(by show some _ = some _; rw [own_exp, if_neg hc1, if_neg hc37, if_neg hc73, if_pos hc85, if_pos hc87, if_pos hc89]), N0, rfl⟩
            · have pre92 : own_Go p e below S0 (s₁.setTop (mkF m 89 #[.val (.int p1), .val (.int p1), .val (.int (1 : Int32)), .val (.int (0 : Int32)), .val (.int (1 : Int32)), .val (.int (0 : Int32))] [(.int (1 : Int32))])) := by
                intro t kt
                refine pre90 t ?_
                refine XS.icmpYes X0.here hx rfl (pc0 := 56) (pc' := 63) rfl (hb hby d3_56) rfl (feq hc89).2 (by decide) (by decide) ?_
                show Steps p.tables e below (s₁.setTop (mkF m 63 #[.val (.int p1), .val (.int p1), .val (.int (1 : Int32)), .val (.int (0 : Int32)), .val (.int (1 : Int32)), .unset] [])) _
                refine XS.iconst X0.here hx rfl (hb hby d3_63) ?_
                show Steps p.tables e below (s₁.setTop (mkF m 64 #[.val (.int p1), .val (.int p1), .val (.int (1 : Int32)), .val (.int (0 : Int32)), .val (.int (1 : Int32)), .unset] [(.int (0 : Int32))])) _
                refine XS.istore X0.here hx rfl (hb hby d3_64) rfl (l' := #[.val (.int p1), .val (.int p1), .val (.int (1 : Int32)), .val (.int (0 : Int32)), .val (.int (1 : Int32)), .val (.int (0 : Int32))]) rfl ?_
                show Steps p.tables e below (s₁.setTop (mkF m 66 #[.val (.int p1), .val (.int p1), .val (.int (1 : Int32)), .val (.int (0 : Int32)), .val (.int (1 : Int32)), .val (.int (0 : Int32))] [])) _
                refine XS.iloadN X0.here hx rfl (hb hby d3_66) rfl ?_
                show Steps p.tables e below (s₁.setTop (mkF m 67 #[.val (.int p1), .val (.int p1), .val (.int (1 : Int32)), .val (.int (0 : Int32)), .val (.int (1 : Int32)), .val (.int (0 : Int32))] [(.int (1 : Int32))])) _
                refine XS.ifYes X0.here hx rfl (pc0 := 67) (pc' := 84) rfl (hb hby d3_67) rfl ((if0 _ _).trans (feq (by decide : ¬ ((1 : Int32) = (0 : Int32)))).2) (by decide) (by decide) ?_
                show Steps p.tables e below (s₁.setTop (mkF m 84 #[.val (.int p1), .val (.int p1), .val (.int (1 : Int32)), .val (.int (0 : Int32)), .val (.int (1 : Int32)), .val (.int (0 : Int32))] [])) _
                refine XS.iconst X0.here hx rfl (hb hby d3_84) ?_
                show Steps p.tables e below (s₁.setTop (mkF m 85 #[.val (.int p1), .val (.int p1), .val (.int (1 : Int32)), .val (.int (0 : Int32)), .val (.int (1 : Int32)), .val (.int (0 : Int32))] [(.int (1 : Int32))])) _
                refine XS.goto X0.here hx rfl (pc0 := 85) (pc' := 89) rfl (hb hby d3_85) (by decide) (by decide) ?_
                show Steps p.tables e below (s₁.setTop (mkF m 89 #[.val (.int p1), .val (.int p1), .val (.int (1 : Int32)), .val (.int (0 : Int32)), .val (.int (1 : Int32)), .val (.int (0 : Int32))] [(.int (1 : Int32))])) _
                exact kt
              obtain ⟨fs, hr, hrun, hended, hW, hsame⟩ := X0.leave (v := some (.int (1 : Int32))) (fun h => by rw [Bd.returns] at h; cases h)
              refine ⟨_, _, fin _ (pre92 _ ?_), hrun, hended, _, _, rfl, ?_, ⟨_, rfl⟩, hW, hsame.mono (by decide) (by decide)⟩
              · exact retN X0 hx (t := .boolean) Bd.returns (by simp) (hb hby d3_89) hr
              · show Q3 Z p1 h0 n0 _ s₁.heap _
                rw [e0]
                exact ⟨(by show some _ = some _; rw [own_exp, if_neg hc1, if_neg hc37, if_neg hc73, if_pos hc85, if_pos hc87, if_neg hc89]), N0, rfl⟩
          · have pre94 : own_Go p e below S0 (s₁.setTop (mkF m 56 #[.val (.int p1), .val (.int p1), .val (.int (1 : Int32)), .val (.int (0 : Int32)), .val (.int (0 : Int32)), .unset] [(.int (8233 : Int32)), (.int p1)])) := by
              intro t kt
              refine pre88 t ?_
              refine XS.icmpYes X0.here hx rfl (pc0 := 42) (pc' := 49) rfl (hb hby d3_42) rfl (feq hc87).2 (by decide) (by decide) ?_
              show Steps p.tables e below (s₁.setTop (mkF m 49 #[.val (.int p1), .val (.int p1), .val (.int (1 : Int32)), .val (.int (0 : Int32)), .unset, .unset] [])) _
              refine XS.iconst X0.here hx rfl (hb hby d3_49) ?_
              show Steps p.tables e below (s₁.setTop (mkF m 50 #[.val (.int p1), .val (.int p1), .val (.int (1 : Int32)), .val (.int (0 : Int32)), .unset, .unset] [(.int (0 : Int32))])) _
              refine XS.istore X0.here hx rfl (hb hby d3_50) rfl (l' := #[.val (.int p1), .val (.int p1), .val (.int (1 : Int32)), .val (.int (0 : Int32)), .val (.int (0 : Int32)), .unset]) rfl ?_
              show Steps p.tables e below (s₁.setTop (mkF m 52 #[.val (.int p1), .val (.int p1), .val (.int (1 : Int32)), .val (.int (0 : Int32)), .val (.int (0 : Int32)), .unset] [])) _
              refine XS.iloadN X0.here hx rfl (hb hby d3_52) rfl ?_
              show Steps p.tables e below (s₁.setTop (mkF m 53 #[.val (.int p1), .val (.int p1), .val (.int (1 : Int32)), .val (.int (0 : Int32)), .val (.int (0 : Int32)), .unset] [(.int p1)])) _
              refine XS.sipush X0.here hx rfl (hb hby d3_53) ?_
              show Steps p.tables e below (s₁.setTop (mkF m 56 #[.val (.int p1), .val (.int p1), .val (.int (1 : Int32)), .val (.int (0 : Int32)), .val (.int (0 : Int32)), .unset] [(.int (8233 : Int32)), (.int p1)])) _
              exact kt
            by_cases hc93 : p1 = (8233 : Int32)
            · have pre95 : own_Go p e below S0 (s₁.setTop (mkF m 89 #[.val (.int p1), .val (.int p1), .val (.int (1 : Int32)), .val (.int (0 : Int32)), .val (.int (0 : Int32)), .val (.int (1 : Int32))] [(.int (1 : Int32))])) := by
                intro t kt
                refine pre94 t ?_
                refine XS.icmpNo X0.here hx rfl (hb hby d3_56) rfl (teq hc93).2 ?_
                show Steps p.tables e below (s₁.setTop (mkF m 59 #[.val (.int p1), .val (.int p1), .val (.int (1 : Int32)), .val (.int (0 : Int32)), .val (.int (0 : Int32)), .unset] [])) _
                refine XS.iconst X0.here hx rfl (hb hby d3_59) ?_
                show Steps p.tables e below (s₁.setTop (mkF m 60 #[.val (.int p1), .val (.int p1), .val (.int (1 : Int32)), .val (.int (0 : Int32)), .val (.int (0 : Int32)), .unset] [(.int (1 : Int32))])) _
                refine XS.goto X0.here hx rfl (pc0 := 60) (pc' := 64) rfl (hb hby d3_60) (by decide) (by decide) ?_
                show Steps p.tables e below (s₁.setTop (mkF m 64 #[.val (.int p1), .val (.int p1), .val (.int (1 : Int32)), .val (.int (0 : Int32)), .val (.int (0 : Int32)), .unset] [(.int (1 : Int32))])) _
                refine XS.istore X0.here hx rfl (hb hby d3_64) rfl (l' := #[.val (.int p1), .val (.int p1), .val (.int (1 : Int32)), .val (.int (0 : Int32)), .val (.int (0 : Int32)), .val (.int (1 : Int32))]) rfl ?_
                show Steps p.tables e below (s₁.setTop (mkF m 66 #[.val (.int p1), .val (.int p1), .val (.int (1 : Int32)), .val (.int (0 : Int32)), .val (.int (0 : Int32)), .val (.int (1 : Int32))] [])) _
                refine XS.iloadN X0.here hx rfl (hb hby d3_66) rfl ?_
                show Steps p.tables e below (s₁.setTop (mkF m 67 #[.val (.int p1), .val (.int p1), .val (.int (1 : Int32)), .val (.int (0 : Int32)), .val (.int (0 : Int32)), .val (.int (1 : Int32))] [(.int (1 : Int32))])) _
                refine XS.ifYes X0.here hx rfl (pc0 := 67) (pc' := 84) rfl (hb hby d3_67) rfl ((if0 _ _).trans (feq (by decide : ¬ ((1 : Int32) = (0 : Int32)))).2) (by decide) (by decide) ?_
                show Steps p.tables e below (s₁.setTop (mkF m 84 #[.val (.int p1), .val (.int p1), .val (.int (1 : Int32)), .val (.int (0 : Int32)), .val (.int (0 : Int32)), .val (.int (1 : Int32))] [])) _
                refine XS.iconst X0.here hx rfl (hb hby d3_84) ?_
                show Steps p.tables e below (s₁.setTop (mkF m 85 #[.val (.int p1), .val (.int p1), .val (.int (1 : Int32)), .val (.int (0 : Int32)), .val (.int (0 : Int32)), .val (.int (1 : Int32))] [(.int (1 : Int32))])) _
                refine XS.goto X0.here hx rfl (pc0 := 85) (pc' := 89) rfl (hb hby d3_85) (by decide) (by decide) ?_
                show Steps p.tables e below (s₁.setTop (mkF m 89 #[.val (.int p1), .val (.int p1), .val (.int (1 : Int32)), .val (.int (0 : Int32)), .val (.int (0 : Int32)), .val (.int (1 : Int32))] [(.int (1 : Int32))])) _
                exact kt
              obtain ⟨fs, hr, hrun, hended, hW, hsame⟩ := X0.leave (v := some (.int (1 : Int32))) (fun h => by rw [Bd.returns] at h; cases h)
              refine ⟨_, _, fin _ (pre95 _ ?_), hrun, hended, _, _, rfl, ?_, ⟨_, rfl⟩, hW, hsame.mono (by decide) (by decide)⟩
              · exact retN X0 hx (t := .boolean) Bd.returns (by simp) (hb hby d3_89) hr
              · show Q3 Z p1 h0 n0 _ s₁.heap _
                rw [e0]
                exact ⟨(by show some _ = some _; rw [own_exp, if_neg hc1, if_neg hc37, if_neg hc73, if_pos hc85, if_neg hc87, if_pos hc93]), N0, rfl⟩
            · have pre96 : own_Go p e below S0 (s₁.setTop (mkF m 89 #[.val (.int p1), .val (.int p1), .val (.int (1 : Int32)), .val (.int (0 : Int32)), .val (.int (0 : Int32)), .val (.int (0 : Int32))] [(.int (1 : Int32))])) := by
                intro t kt
                refine pre94 t ?_
                refine XS.icmpYes X0.here hx rfl (pc0 := 56) (pc' := 63) rfl (hb hby d3_56) rfl (feq hc93).2 (by decide) (by decide) ?_
                show Steps p.tables e below (s₁.setTop (mkF m 63 #[.val (.int p1), .val (.int p1), .val (.int (1 : Int32)), .val (.int (0 : Int32)), .val (.int (0 : Int32)), .unset] [])) _
                refine XS.iconst X0.here hx rfl (hb hby d3_63) ?_
                show Steps p.tables e below (s₁.setTop (mkF m 64 #[.val (.int p1), .val (.int p1), .val (.int (1 : Int32)), .val (.int (0 : Int32)), .val (.int (0 : Int32)), .unset] [(.int (0 : Int32))])) _
                refine XS.istore X0.here hx rfl (hb hby d3_64) rfl (l' := #[.val (.int p1), .val (.int p1), .val (.int (1 : Int32)), .val (.int (0 : Int32)), .val (.int (0 : Int32)), .val (.int (0 : Int32))]) rfl ?_
                show Steps p.tables e below (s₁.setTop (mkF m 66 #[.val (.int p1), .val (.int p1), .val (.int (1 : Int32)), .val (.int (0 : Int32)), .val (.int (0 : Int32)), .val (.int (0 : Int32))] [])) _
                refine XS.iloadN X0.here hx rfl (hb hby d3_66) rfl ?_
                show Steps p.tables e below (s₁.setTop (mkF m 67 #[.val (.int p1), .val (.int p1), .val (.int (1 : Int32)), .val (.int (0 : Int32)), .val (.int (0 : Int32)), .val (.int (0 : Int32))] [(.int (1 : Int32))])) _
                refine XS.ifYes X0.here hx rfl (pc0 := 67) (pc' := 84) rfl (hb hby d3_67) rfl ((if0 _ _).trans (feq (by decide : ¬ ((1 : Int32) = (0 : Int32)))).2) (by decide) (by decide) ?_
                show Steps p.tables e below (s₁.setTop (mkF m 84 #[.val (.int p1), .val (.int p1), .val (.int (1 : Int32)), .val (.int (0 : Int32)), .val (.int (0 : Int32)), .val (.int (0 : Int32))] [])) _
                refine XS.iconst X0.here hx rfl (hb hby d3_84) ?_
                show Steps p.tables e below (s₁.setTop (mkF m 85 #[.val (.int p1), .val (.int p1), .val (.int (1 : Int32)), .val (.int (0 : Int32)), .val (.int (0 : Int32)), .val (.int (0 : Int32))] [(.int (1 : Int32))])) _
                refine XS.goto X0.here hx rfl (pc0 := 85) (pc' := 89) rfl (hb hby d3_85) (by decide) (by decide) ?_
                show Steps p.tables e below (s₁.setTop (mkF m 89 #[.val (.int p1), .val (.int p1), .val (.int (1 : Int32)), .val (.int (0 : Int32)), .val (.int (0 : Int32)), .val (.int (0 : Int32))] [(.int (1 : Int32))])) _
                exact kt
              obtain ⟨fs, hr, hrun, hended, hW, hsame⟩ := X0.leave (v := some (.int (1 : Int32))) (fun h => by rw [Bd.returns] at h; cases h)
              refine ⟨_, _, fin _ (pre96 _ ?_), hrun, hended, _, _, rfl, ?_, ⟨_, rfl⟩, hW, hsame.mono (by decide) (by decide)⟩
              · exact retN X0 hx (t := .boolean) Bd.returns (by simp) (hb hby d3_89) hr
              · show Q3 Z p1 h0 n0 _ s₁.heap _
                rw [e0]
                exact ⟨(by show some _ = some _; rw [own_exp, if_neg hc1, if_neg hc37, if_neg hc73, if_pos hc85, if_neg hc87, if_neg hc93]), N0, rfl⟩
        · have pre98 : own_Go p e below S0 (s₁.setTop (mkF m 42 #[.val (.int p1), .val (.int p1), .val (.int (1 : Int32)), .val (.int (1 : Int32)), .unset, .unset] [(.int (8232 : Int32)), (.int p1)])) := by
            intro t kt
            refine pre86 t ?_
            refine XS.icmpNo X0.here hx rfl (hb hby d3_29) rfl (flt hc85).2.2.1 ?_
            show Steps p.tables e below (s₁.setTop (mkF m 32 #[.val (.int p1), .val (.int p1), .val (.int (1 : Int32)), .unset, .unset, .unset] [])) _
            refine XS.iconst X0.here hx rfl (hb hby d3_32) ?_
            show Steps p.tables e below (s₁.setTop (mkF m 33 #[.val (.int p1), .val (.int p1), .val (.int (1 : Int32)), .unset, .unset, .unset] [(.int (1 : Int32))])) _
            refine XS.goto X0.here hx rfl (pc0 := 33) (pc' := 37) rfl (hb hby d3_33) (by decide) (by decide) ?_
            show Steps p.tables e below (s₁.setTop (mkF m 37 #[.val (.int p1), .val (.int p1), .val (.int (1 : Int32)), .unset, .unset, .unset] [(.int (1 : Int32))])) _
            refine XS.istoreN X0.here hx rfl (hb hby d3_37) rfl (l' := #[.val (.int p1), .val (.int p1), .val (.int (1 : Int32)), .val (.int (1 : Int32)), .unset, .unset]) rfl ?_
            show Steps p.tables e below (s₁.setTop (mkF m 38 #[.val (.int p1), .val (.int p1), .val (.int (1 : Int32)), .val (.int (1 : Int32)), .unset, .unset] [])) _
            refine XS.iloadN X0.here hx rfl (hb hby d3_38) rfl ?_
            show Steps p.tables e below (s₁.setTop (mkF m 39 #[.val (.int p1), .val (.int p1), .val (.int (1 : Int32)), .val (.int (1 : Int32)), .unset, .unset] [(.int p1)])) _
            refine XS.sipush X0.here hx rfl (hb hby d3_39) ?_
            show Steps p.tables e below (s₁.setTop (mkF m 42 #[.val (.int p1), .val (.int p1), .val (.int (1 : Int32)), .val (.int (1 : Int32)), .unset, .unset] [(.int (8232 : Int32)), (.int p1)])) _
            exact kt
          by_cases hc97 : p1 = (8232 : Int32)
          · have pre100 : own_Go p e below S0 (s₁.setTop (mkF m 56 #[.val (.int p1), .val (.int p1), .val (.int (1 : Int32)), .val (.int (1 : Int32)), .val (.int (1 : Int32)), .unset] [(.int (8233 : Int32)), (.int p1)])) := by
              intro t kt
              refine pre98 t ?_
              refine XS.icmpNo X0.here hx rfl (hb hby d3_42) rfl (teq hc97).2 ?_
              show Steps p.tables e below (s₁.setTop (mkF m 45 #[.val (.int p1), .val (.int p1), .val (.int (1 : Int32)), .val (.int (1 : Int32)), .unset, .unset] [])) _
              refine XS.iconst X0.here hx rfl (hb hby d3_45) ?_
              show Steps p.tables e below (s₁.setTop (mkF m 46 #[.val (.int p1), .val (.int p1), .val (.int (1 : Int32)), .val (.int (1 : Int32)), .unset, .unset] [(.int (1 : Int32))])) _
              refine XS.goto X0.here hx rfl (pc0 := 46) (pc' := 50) rfl (hb hby d3_46) (by decide) (by decide) ?_
              show Steps p.tables e below (s₁.setTop (mkF m 50 #[.val (.int p1), .val (.int p1), .val (.int (1 : Int32)), .val (.int (1 : Int32)), .unset, .unset] [(.int (1 : Int32))])) _
              refine XS.istore X0.here hx rfl (hb hby d3_50) rfl (l' := #[.val (.int p1), .val (.int p1), .val (.int (1 : Int32)), .val (.int (1 : Int32)), .val (.int (1 : Int32)), .unset]) rfl ?_
              show Steps p.tables e below (s₁.setTop (mkF m 52 #[.val (.int p1), .val (.int p1), .val (.int (1 : Int32)), .val (.int (1 : Int32)), .val (.int (1 : Int32)), .unset] [])) _
              refine XS.iloadN X0.here hx rfl (hb hby d3_52) rfl ?_
              show Steps p.tables e below (s₁.setTop (mkF m 53 #[.val (.int p1), .val (.int p1), .val (.int (1 : Int32)), .val (.int (1 : Int32)), .val (.int (1 : Int32)), .unset] [(.int p1)])) _
              refine XS.sipush X0.here hx rfl (hb hby d3_53) ?_
              show Steps p.tables e below (s₁.setTop (mkF m 56 #[.val (.int p1), .val (.int p1), .val (.int (1 : Int32)), .val (.int (1 : Int32)), .val (.int (1 : Int32)), .unset] [(.int (8233 : Int32)), (.int p1)])) _
              exact kt
            by_cases hc99 : p1 = (8233 : Int32)
            · have pre101 : own_Go p e below S0 (s₁.setTop (mkF m 89 #[.val (.int p1), .val (.int p1), .val (.int (1 : Int32)), .val (.int (1 : Int32)), .val (.int (1 : Int32)), .val (.int (1 : Int32))] [(.int (1 : Int32))])) := by
                intro t kt
                refine pre100 t ?_
                refine XS.icmpNo X0.here hx rfl (hb hby d3_56) rfl (teq hc99).2 ?_
                show Steps p.tables e below (s₁.setTop (mkF m 59 #[.val (.int p1), .val (.int p1), .val (.int (1 : Int32)), .val (.int (1 : Int32)), .val (.int (1 : Int32)), .unset] [])) _
                refine XS.iconst X0.here hx rfl (hb hby d3_59) ?_
                show Steps p.tables e below (s₁.setTop (mkF m 60 #[.val (.int p1), .val (.int p1), .val (.int (1 : Int32)), .val (.int (1 : Int32)), .val (.int (1 : Int32)), .unset] [(.int (1 : Int32))])) _
                refine XS.goto X0.here hx rfl (pc0 := 60) (pc' := 64) rfl (hb hby d3_60) (by decide) (by decide) ?_
                show Steps p.tables e below (s₁.setTop (mkF m 64 #[.val (.int p1), .val (.int p1), .val (.int (1 : Int32)), .val (.int (1 : Int32)), .val (.int (1 : Int32)), .unset] [(.int (1 : Int32))])) _
                refine XS.istore X0.here hx rfl (hb hby d3_64) rfl (l' := #[.val (.int p1), .val (.int p1), .val (.int (1 : Int32)), .val (.int (1 : Int32)), .val (.int (1 : Int32)), .val (.int (1 : Int32))]) rfl ?_
                show Steps p.tables e below (s₁.setTop (mkF m 66 #[.val (.int p1), .val (.int p1), .val (.int (1 : Int32)), .val (.int (1 : Int32)), .val (.int (1 : Int32)), .val (.int (1 : Int32))] [])) _
                refine XS.iloadN X0.here hx rfl (hb hby d3_66) rfl ?_
                show Steps p.tables e below (s₁.setTop (mkF m 67 #[.val (.int p1), .val (.int p1), .val (.int (1 : Int32)), .val (.int (1 : Int32)), .val (.int (1 : Int32)), .val (.int (1 : Int32))] [(.int (1 : Int32))])) _
                refine XS.ifYes X0.here hx rfl (pc0 := 67) (pc' := 84) rfl (hb hby d3_67) rfl ((if0 _ _).trans (feq (by decide : ¬ ((1 : Int32) = (0 : Int32)))).2) (by decide) (by decide) ?_
                show Steps p.tables e below (s₁.setTop (mkF m 84 #[.val (.int p1), .val (.int p1), .val (.int (1 : Int32)), .val (.int (1 : Int32)), .val (.int (1 : Int32)), .val (.int (1 : Int32))] [])) _
                refine XS.iconst X0.here hx rfl (hb hby d3_84) ?_
                show Steps p.tables e below (s₁.setTop (mkF m 85 #[.val (.int p1), .val (.int p1), .val (.int (1 : Int32)), .val (.int (1 : Int32)), .val (.int (1 : Int32)), .val (.int (1 : Int32))] [(.int (1 : Int32))])) _
                refine XS.goto X0.here hx rfl (pc0 := 85) (pc' := 89) rfl (hb hby d3_85) (by decide) (by decide) ?_
                show Steps p.tables e below (s₁.setTop (mkF m 89 #[.val (.int p1), .val (.int p1), .val (.int (1 : Int32)), .val (.int (1 : Int32)), .val (.int (1 : Int32)), .val (.int (1 : Int32))] [(.int (1 : Int32))])) _
                exact kt
              obtain ⟨fs, hr, hrun, hended, hW, hsame⟩ := X0.leave (v := some (.int (1 : Int32))) (fun h => by rw [Bd.returns] at h; cases h)
              refine ⟨_, _, fin _ (pre101 _ ?_), hrun, hended, _, _, rfl, ?_, ⟨_, rfl⟩, hW, hsame.mono (by decide) (by decide)⟩
              · exact retN X0 hx (t := .boolean) Bd.returns (by simp) (hb hby d3_89) hr
              · show Q3 Z p1 h0 n0 _ s₁.heap _
                rw [e0]
                exact ⟨(by show some _ = some _; rw [own_exp, if_neg hc1, if_neg hc37, if_neg hc73, if_neg hc85, if_pos hc97, if_pos hc99]), N0, rfl⟩
            · have pre102 : own_Go p e below S0 (s₁.setTop (mkF m 89 #[.val (.int p1), .val (.int p1), .val (.int (1 : Int32)), .val (.int (1 : Int32)), .val (.int (1 : Int32)), .val (.int (0 : Int32))] [(.int (1 : Int32))])) := by
                intro t kt
                refine pre100 t ?_
                refine XS.icmpYes X0.here hx rfl (pc0 := 56) (pc' := 63) rfl (hb hby d3_56) rfl (feq hc99).2 (by decide) (by decide) ?_
                show Steps p.tables e below (s₁.setTop (mkF m 63 #[.val (.int p1), .val (.int p1), .val (.int (1 : Int32)), .val (.int (1 : Int32)), .val (.int (1 : Int32)), .unset] [])) _
                refine XS.iconst X0.here hx rfl (hb hby d3_63) ?_
                show Steps p.tables e below (s₁.setTop (mkF m 64 #[.val (.int p1), .val (.int p1), .val (.int (1 : Int32)), .val (.int (1 : Int32)), .val (.int (1 : Int32)), .unset] [(.int (0 : Int32))])) _
                refine XS.istore X0.here hx rfl (hb hby d3_64) rfl (l' := #[.val (.int p1), .val (.int p1), .val (.int (1 : Int32)), .val (.int (1 : Int32)), .val (.int (1 : Int32)), .val (.int (0 : Int32))]) rfl ?_
                show Steps p.tables e below (s₁.setTop (mkF m 66 #[.val (.int p1), .val (.int p1), .val (.int (1 : Int32)), .val (.int (1 : Int32)), .val (.int (1 : Int32)), .val (.int (0 : Int32))] [])) _
                refine XS.iloadN X0.here hx rfl (hb hby d3_66) rfl ?_
                show Steps p.tables e below (s₁.setTop (mkF m 67 #[.val (.int p1), .val (.int p1), .val (.int (1 : Int32)), .val (.int (1 : Int32)), .val (.int (1 : Int32)), .val (.int (0 : Int32))] [(.int (1 : Int32))])) _
                refine XS.ifYes X0.here hx rfl (pc0 := 67) (pc' := 84) rfl (hb hby d3_67) rfl ((if0 _ _).trans (feq (by decide : ¬ ((1 : Int32) = (0 : Int32)))).2) (by decide) (by decide) ?_
                show Steps p.tables e below (s₁.setTop (mkF m 84 #[.val (.int p1), .val (.int p1), .val (.int (1 : Int32)), .val (.int (1 : Int32)), .val (.int (1 : Int32)), .val (.int (0 : Int32))] [])) _
                refine XS.iconst X0.here hx rfl (hb hby d3_84) ?_
                show Steps p.tables e below (s₁.setTop (mkF m 85 #[.val (.int p1), .val (.int p1), .val (.int (1 : Int32)), .val (.int (1 : Int32)), .val (.int (1 : Int32)), .val (.int (0 : Int32))] [(.int (1 : Int32))])) _
                refine XS.goto X0.here hx rfl (pc0 := 85) (pc' := 89) rfl (hb hby d3_85) (by decide) (by decide) ?_
                show Steps p.tables e below (s₁.setTop (mkF m 89 #[.val (.int p1), .val (.int p1), .val (.int (1 : Int32)), .val (.int (1 : Int32)), .val (.int (1 : Int32)), .val (.int (0 : Int32))] [(.int (1 : Int32))])) _
                exact kt
              obtain ⟨fs, hr, hrun, hended, hW, hsame⟩ := X0.leave (v := some (.int (1 : Int32))) (fun h => by rw [Bd.returns] at h; cases h)
              refine ⟨_, _, fin _ (pre102 _ ?_), hrun, hended, _, _, rfl, ?_, ⟨_, rfl⟩, hW, hsame.mono (by decide) (by decide)⟩
              · exact retN X0 hx (t := .boolean) Bd.returns (by simp) (hb hby d3_89) hr
              · show Q3 Z p1 h0 n0 _ s₁.heap _
                rw [e0]
                exact ⟨(by show some _ = some _; rw [own_exp, if_neg hc1, if_neg hc37, if_neg hc73, if_neg hc85, if_pos hc97, if_neg hc99]), N0, rfl⟩
          · have pre104 : own_Go p e below S0 (s₁.setTop (mkF m 56 #[.val (.int p1), .val (.int p1), .val (.int (1 : Int32)), .val (.int (1 : Int32)), .val (.int (0 : Int32)), .unset] [(.int (8233 : Int32)), (.int p1)])) := by
              intro t kt
              refine pre98 t ?_
              refine XS.icmpYes X0.here hx rfl (pc0 := 42) (pc' := 49) rfl (hb hby d3_42) rfl (feq hc97).2 (by decide) (by decide) ?_
              show Steps p.tables e below (s₁.setTop (mkF m 49 #[.val (.int p1), .val (.int p1), .val (.int (1 : Int32)), .val (.int (1 : Int32)), .unset, .unset] [])) _
              refine XS.iconst X0.here hx rfl (hb hby d3_49) ?_
              show Steps p.tables e below (s₁.setTop (mkF m 50 #[.val (.int p1), .val (.int p1), .val (.int (1 : Int32)), .val (.int (1 : Int32)), .unset, .unset] [(.int (0 : Int32))])) _
              refine XS.istore X0.here hx rfl (hb hby d3_50) rfl (l' := #[.val (.int p1), .val (.int p1), .val (.int (1 : Int32)), .val (.int (1 : Int32)), .val (.int (0 : Int32)), .unset]) rfl ?_
              show Steps p.tables e below (s₁.setTop (mkF m 52 #[.val (.int p1), .val (.int p1), .val (.int (1 : Int32)), .val (.int (1 : Int32)), .val (.int (0 : Int32)), .unset] [])) _
              refine XS.iloadN X0.here hx rfl (hb hby d3_52) rfl ?_
              show Steps p.tables e below (s₁.setTop (mkF m 53 #[.val (.int p1), .val (.int p1), .val (.int (1 : Int32)), .val (.int (1 : Int32)), .val (.int (0 : Int32)), .unset] [(.int p1)])) _
              refine XS.sipush X0.here hx rfl (hb hby d3_53) ?_
              show Steps p.tables e below (s₁.setTop (mkF m 56 #[.val (.int p1), .val (.int p1), .val (.int (1 : Int32)), .val (.int (1 : Int32)), .val (.int (0 : Int32)), .unset] [(.int (8233 : Int32)), (.int p1)])) _
              exact kt
            by_cases hc103 : p1 = (8233 : Int32)
            · have pre105 : own_Go p e below S0 (s₁.setTop (mkF m 89 #[.val (.int p1), .val (.int p1), .val (.int (1 : Int32)), .val (.int (1 : Int32)), .val (.int (0 : Int32)), .val (.int (1 : Int32))] [(.int (1 : Int32))])) := by
                intro t kt
                refine pre104 t ?_
                refine XS.icmpNo X0.here hx rfl (hb hby d3_56) rfl (teq hc103).2 ?_
                show Steps p.tables e below (s₁.setTop (mkF m 59 #[.val (.int p1), .val (.int p1), .val (.int (1 : Int32)), .val (.int (1 : Int32)), .val (.int (0 : Int32)), .unset] [])) _
                refine XS.iconst X0.here hx rfl (hb hby d3_59) ?_
                show Steps p.tables e below (s₁.setTop (mkF m 60 #[.val (.int p1), .val (.int p1), .val (.int (1 : Int32)), .val (.int (1 : Int32)), .val (.int (0 : Int32)), .unset] [(.int (1 : Int32))])) _
                refine XS.goto X0.here hx rfl (pc0 := 60) (pc' := 64) rfl (hb hby d3_60) (by decide) (by decide) ?_
                show Steps p.tables e below (s₁.setTop (mkF m 64 #[.val (.int p1), .val (.int p1), .val (.int (1 : Int32)), .val (.int (1 : Int32)), .val (.int (0 : Int32)), .unset] [(.int (1 : Int32))])) _
                refine XS.istore X0.here hx rfl (hb hby d3_64) rfl (l' := #[.val (.int p1), .val (.int p1), .val (.int (1 : Int32)), .val (.int (1 : Int32)), .val (.int (0 : Int32)), .val (.int (1 : Int32))]) rfl ?_
                show Steps p.tables e below (s₁.setTop (mkF m 66 #[.val (.int p1), .val (.int p1), .val (.int (1 : Int32)), .val (.int (1 : Int32)), .val (.int (0 : Int32)), .val (.int (1 : Int32))] [])) _
                refine XS.iloadN X0.here hx rfl (hb hby d3_66) rfl ?_
                show Steps p.tables e below (s₁.setTop (mkF m 67 #[.val (.int p1), .val (.int p1), .val (.int (1 : Int32)), .val (.int (1 : Int32)), .val (.int (0 : Int32)), .val (.int (1 : Int32))] [(.int (1 : Int32))])) _
                refine XS.ifYes X0.here hx rfl (pc0 := 67) (pc' := 84) rfl (hb hby d3_67) rfl ((if0 _ _).trans (feq (by decide : ¬ ((1 : Int32) = (0 : Int32)))).2) (by decide) (by decide) ?_
                show Steps p.tables e below (s₁.setTop (mkF m 84 #[.val (.int p1), .val (.int p1), .val (.int (1 : Int32)), .val (.int (1 : Int32)), .val (.int (0 : Int32)), .val (.int (1 : Int32))] [])) _
                refine XS.iconst X0.here hx rfl (hb hby d3_84) ?_
                show Steps p.tables e below (s₁.setTop (mkF m 85 #[.val (.int p1), .val (.int p1), .val (.int (1 : Int32)), .val (.int (1 : Int32)), .val (.int (0 : Int32)), .val (.int (1 : Int32))] [(.int (1 : Int32))])) _
                refine XS.goto X0.here hx rfl (pc0 := 85) (pc' := 89) rfl (hb hby d3_85) (by decide) (by decide) ?_
                show Steps p.tables e below (s₁.setTop (mkF m 89 #[.val (.int p1), .val (.int p1), .val (.int (1 : Int32)), .val (.int (1 : Int32)), .val (.int (0 : Int32)), .val (.int (1 : Int32))] [(.int (1 : Int32))])) _
                exact kt
              obtain ⟨fs, hr, hrun, hended, hW, hsame⟩ := X0.leave (v := some (.int (1 : Int32))) (fun h => by rw [Bd.returns] at h; cases h)
              refine ⟨_, _, fin _ (pre105 _ ?_), hrun, hended, _, _, rfl, ?_, ⟨_, rfl⟩, hW, hsame.mono (by decide) (by decide)⟩
              · exact retN X0 hx (t := .boolean) Bd.returns (by simp) (hb hby d3_89) hr
              · show Q3 Z p1 h0 n0 _ s₁.heap _
                rw [e0]
                exact ⟨(by show some _ = some _; rw [own_exp, if_neg hc1, if_neg hc37, if_neg hc73, if_neg hc85, if_neg hc97, if_pos hc103]), N0, rfl⟩
            · have pre106 : own_Go p e below S0 (s₁.setTop (mkF m 89 #[.val (.int p1), .val (.int p1), .val (.int (1 : Int32)), .val (.int (1 : Int32)), .val (.int (0 : Int32)), .val (.int (0 : Int32))] [(.int (1 : Int32))])) := by
                intro t kt
                refine pre104 t ?_
                refine XS.icmpYes X0.here hx rfl (pc0 := 56) (pc' := 63) rfl (hb hby d3_56) rfl (feq hc103).2 (by decide) (by decide) ?_
                show Steps p.tables e below (s₁.setTop (mkF m 63 #[.val (.int p1), .val (.int p1), .val (.int (1 : Int32)), .val (.int (1 : Int32)), .val (.int (0 : Int32)), .unset] [])) _
                refine XS.iconst X0.here hx rfl (hb hby d3_63) ?_
                show Steps p.tables e below (s₁.setTop (mkF m 64 #[.val (.int p1), .val (.int p1), .val (.int (1 : Int32)), .val (.int (1 : Int32)), .val (.int (0 : Int32)), .unset] [(.int (0 : Int32))])) _
                refine XS.istore X0.here hx rfl (hb hby d3_64) rfl (l' := #[.val (.int p1), .val (.int p1), .val (.int (1 : Int32)), .val (.int (1 : Int32)), .val (.int (0 : Int32)), .val (.int (0 : Int32))]) rfl ?_
                show Steps p.tables e below (s₁.setTop (mkF m 66 #[.val (.int p1), .val (.int p1), .val (.int (1 : Int32)), .val (.int (1 : Int32)), .val (.int (0 : Int32)), .val (.int (0 : Int32))] [])) _
                refine XS.iloadN X0.here hx rfl (hb hby d3_66) rfl ?_
                show Steps p.tables e below (s₁.setTop (mkF m 67 #[.val (.int p1), .val (.int p1), .val (.int (1 : Int32)), .val (.int (1 : Int32)), .val (.int (0 : Int32)), .val (.int (0 : Int32))] [(.int (1 : Int32))])) _
                refine XS.ifYes X0.here hx rfl (pc0 := 67) (pc' := 84) rfl (hb hby d3_67) rfl ((if0 _ _).trans (feq (by decide : ¬ ((1 : Int32) = (0 : Int32)))).2) (by decide) (by decide) ?_
                show Steps p.tables e below (s₁.setTop (mkF m 84 #[.val (.int p1), .val (.int p1), .val (.int (1 : Int32)), .val (.int (1 : Int32)), .val (.int (0 : Int32)), .val (.int (0 : Int32))] [])) _
                refine XS.iconst X0.here hx rfl (hb hby d3_84) ?_
                show Steps p.tables e below (s₁.setTop (mkF m 85 #[.val (.int p1), .val (.int p1), .val (.int (1 : Int32)), .val (.int (1 : Int32)), .val (.int (0 : Int32)), .val (.int (0 : Int32))] [(.int (1 : Int32))])) _
                refine XS.goto X0.here hx rfl (pc0 := 85) (pc' := 89) rfl (hb hby d3_85) (by decide) (by decide) ?_
                show Steps p.tables e below (s₁.setTop (mkF m 89 #[.val (.int p1), .val (.int p1), .val (.int (1 : Int32)), .val (.int (1 : Int32)), .val (.int (0 : Int32)), .val (.int (0 : Int32))] [(.int (1 : Int32))])) _
                exact kt
              obtain ⟨fs, hr, hrun, hended, hW, hsame⟩ := X0.leave (v := some (.int (1 : Int32))) (fun h => by rw [Bd.returns] at h; cases h)
              refine ⟨_, _, fin _ (pre106 _ ?_), hrun, hended, _, _, rfl, ?_, ⟨_, rfl⟩, hW, hsame.mono (by decide) (by decide)⟩
              · exact retN X0 hx (t := .boolean) Bd.returns (by simp) (hb hby d3_89) hr
              · show Q3 Z p1 h0 n0 _ s₁.heap _
                rw [e0]
                exact ⟨(by show some _ = some _; rw [own_exp, if_neg hc1, if_neg hc37, if_neg hc73, if_neg hc85, if_neg hc97, if_neg hc103]), N0, rfl⟩

theorem own_same (c : Int32) (h0 : 0 ≤ c.toInt) : own_is c = own_exp c := by
  have hl : ∀ a b : Int32, a < b ↔ a.toInt < b.toInt := fun a b => Int32.lt_iff_toInt_lt
  have he : ∀ a b : Int32, a = b ↔ a.toInt = b.toInt := fun a b => Int32.toInt_inj.symm
  unfold own_is own_exp
  simp only [hl, he, show (0 : Int32).toInt = 0 from rfl, show (31 : Int32).toInt = 31 from rfl, show (32 : Int32).toInt = 32 from rfl, show (127 : Int32).toInt = 127 from rfl, show (159 : Int32).toInt = 159 from rfl, show (8232 : Int32).toInt = 8232 from rfl, show (8233 : Int32).toInt = 8233 from rfl]
  generalize c.toInt = z at *
  repeat' split
  all_goals first | rfl | (exfalso; omega)

theorem pn_0 : plainName "com/example/permgrid/permgrid/ControlCharactersIsPinLaw" = true := by first | (simp [plainName, overriddenIn]; done) | decide +kernel
theorem pd_0 : parseMethodDescriptor "(I)I" = some ⟨[.int], some .int⟩ := by decide +kernel
theorem pd_1 : parseMethodDescriptor "(C)Z" = some ⟨[.char], some .boolean⟩ := by decide +kernel
theorem ef_0 (m : MethodId) (x0 : Int32) (x1 : Int32) : entryFrame m #[(.int x0), (.int x1)] maxLocals = mkF m 0 #[.val (.int x0), .val (.int x1), .unset, .unset, .unset, .unset, .unset] [] := by first | (simp [entryFrame, mkF, argsToLocals, Value.category, maxLocals]; done) | rfl
def Q0 (Z : State) (p1 : Int32) (p2 : Int32) (h0 : Heap) (n0 : Nat) (v : Option Value) (h : Heap) (L : List Loc) : Prop := v = (some (.int 1)) ∧ Fr n0 L
set_option maxRecDepth 65536 in
set_option maxHeartbeats 40000000 in
theorem rm0 (l : Launch) (Z : State) (a0 : Array Value) (hw : ∀ d ∈ tables_1, d.before a0 Z = true) (ws : List Jvm.Cond) (p1 : Int32) (p2 : Int32) (h0 : Heap) (n0 : Nat) (Z0 : n0 ≤ h0.size) :
    MetFree l x (head1 (Jvm.Cond.code x code maxLocals ret :: ws) room_1) (fun a U => a = #[(.int p1), (.int p2)] ∧ Z.Warmed39 U.vm ∧ U.heap = h0) (fun _ _ _ _ _ => True) (fun _ U o U' => ∃ v L, o = .returned v ∧ Q0 Z p1 p2 h0 n0 v U'.heap L ∧ FrameEnd U o U' L 0 0) := by
  refine MetFree.of_bodySF (plainFor_of_name pn_0) hisR ?_
  intro p e s m args below meth c s₁ Bd hml0 hP hK
  obtain ⟨rfl, hZ, hh⟩ := hP
  have hx := Bd.exec
  have hby := Bd.bytes
  have hml : c.maxLocals = 7 := hml0
  have hown : s.vm.findClass "com/example/permgrid/permgrid/ControlCharactersIsPinLaw" = some m.cls := findClass_of_methodNamed Bd.named
  have hnm := (name_of_methodNamed Bd.named Bd.method).1
  have X0 : Stand p l e room_1 s m #[(.int p1), (.int p2)] below meth c s₁ [] 0 0 := Stand.of_body Bd
  have e0 : s₁.heap = h0 := by rw [← hh, Bd.state]; rfl
  have N0 := Fr.nil n0
  obtain ⟨S0, hS0⟩ : ∃ z, z = s₁.setTop (entryFrame m #[(.int p1), (.int p2)] maxLocals) := ⟨_, rfl⟩
  have pre0 : own_Go p e below S0 (s₁.setTop (mkF m 0 #[.val (.int p1), .val (.int p2), .unset, .unset, .unset, .unset, .unset] [])) := fun t k => by rw [hS0]; exact castTop (ef_0 m p1 p2) k
  have fin : ∀ t, Steps p.tables e below S0 t → Steps p.tables e below (s₁.setTop (entryFrame m #[(.int p1), (.int p2)] maxLocals)) t := fun t k => by rw [hS0] at k; exact k
  have pre1 : own_Go p e below S0 (s₁.setTop (mkF m 15 #[.val (.int p1), .val (.int p2), .val (.int (p1.toUInt32.toUInt16.toUInt32.toInt32)), .val (.int ((((p2.toUInt32 >>> ((3 : Int32) &&& 31).toUInt32).toInt32) &&& (3 : Int32)) - (2 : Int32))), .unset, .unset, .unset] [(.int (p2 &&& (7 : Int32)))])) := by
    intro t kt
    refine pre0 t ?_
    refine XS.iloadN X0.here hx rfl (hb hby at_0) rfl ?_
    show Steps p.tables e below (s₁.setTop (mkF m 1 #[.val (.int p1), .val (.int p2), .unset, .unset, .unset, .unset, .unset] [(.int p1)])) _
    refine XS.i2c X0.here hx rfl (hb hby at_1) rfl ?_
    show Steps p.tables e below (s₁.setTop (mkF m 2 #[.val (.int p1), .val (.int p2), .unset, .unset, .unset, .unset, .unset] [(.int (p1.toUInt32.toUInt16.toUInt32.toInt32))])) _
    refine XS.istoreN X0.here hx rfl (hb hby at_2) rfl (l' := #[.val (.int p1), .val (.int p2), .val (.int (p1.toUInt32.toUInt16.toUInt32.toInt32)), .unset, .unset, .unset, .unset]) rfl ?_
    show Steps p.tables e below (s₁.setTop (mkF m 3 #[.val (.int p1), .val (.int p2), .val (.int (p1.toUInt32.toUInt16.toUInt32.toInt32)), .unset, .unset, .unset, .unset] [])) _
    refine XS.iloadN X0.here hx rfl (hb hby at_3) rfl ?_
    show Steps p.tables e below (s₁.setTop (mkF m 4 #[.val (.int p1), .val (.int p2), .val (.int (p1.toUInt32.toUInt16.toUInt32.toInt32)), .unset, .unset, .unset, .unset] [(.int p2)])) _
    refine XS.iconst X0.here hx rfl (hb hby at_4) ?_
    show Steps p.tables e below (s₁.setTop (mkF m 5 #[.val (.int p1), .val (.int p2), .val (.int (p1.toUInt32.toUInt16.toUInt32.toInt32)), .unset, .unset, .unset, .unset] [(.int (3 : Int32)), (.int p2)])) _
    refine XS.iushr X0.here hx rfl (hb hby at_5) rfl ?_
    show Steps p.tables e below (s₁.setTop (mkF m 6 #[.val (.int p1), .val (.int p2), .val (.int (p1.toUInt32.toUInt16.toUInt32.toInt32)), .unset, .unset, .unset, .unset] [(.int ((p2.toUInt32 >>> ((3 : Int32) &&& 31).toUInt32).toInt32))])) _
    refine XS.iconst X0.here hx rfl (hb hby at_6) ?_
    show Steps p.tables e below (s₁.setTop (mkF m 7 #[.val (.int p1), .val (.int p2), .val (.int (p1.toUInt32.toUInt16.toUInt32.toInt32)), .unset, .unset, .unset, .unset] [(.int (3 : Int32)), (.int ((p2.toUInt32 >>> ((3 : Int32) &&& 31).toUInt32).toInt32))])) _
    refine XS.iand X0.here hx rfl (hb hby at_7) rfl ?_
    show Steps p.tables e below (s₁.setTop (mkF m 8 #[.val (.int p1), .val (.int p2), .val (.int (p1.toUInt32.toUInt16.toUInt32.toInt32)), .unset, .unset, .unset, .unset] [(.int (((p2.toUInt32 >>> ((3 : Int32) &&& 31).toUInt32).toInt32) &&& (3 : Int32)))])) _
    refine XS.iconst X0.here hx rfl (hb hby at_8) ?_
    show Steps p.tables e below (s₁.setTop (mkF m 9 #[.val (.int p1), .val (.int p2), .val (.int (p1.toUInt32.toUInt16.toUInt32.toInt32)), .unset, .unset, .unset, .unset] [(.int (2 : Int32)), (.int (((p2.toUInt32 >>> ((3 : Int32) &&& 31).toUInt32).toInt32) &&& (3 : Int32)))])) _
    refine XS.isub X0.here hx rfl (hb hby at_9) rfl ?_
    show Steps p.tables e below (s₁.setTop (mkF m 10 #[.val (.int p1), .val (.int p2), .val (.int (p1.toUInt32.toUInt16.toUInt32.toInt32)), .unset, .unset, .unset, .unset] [(.int ((((p2.toUInt32 >>> ((3 : Int32) &&& 31).toUInt32).toInt32) &&& (3 : Int32)) - (2 : Int32)))])) _
    refine XS.istoreN X0.here hx rfl (hb hby at_10) rfl (l' := #[.val (.int p1), .val (.int p2), .val (.int (p1.toUInt32.toUInt16.toUInt32.toInt32)), .val (.int ((((p2.toUInt32 >>> ((3 : Int32) &&& 31).toUInt32).toInt32) &&& (3 : Int32)) - (2 : Int32))), .unset, .unset, .unset]) rfl ?_
    show Steps p.tables e below (s₁.setTop (mkF m 11 #[.val (.int p1), .val (.int p2), .val (.int (p1.toUInt32.toUInt16.toUInt32.toInt32)), .val (.int ((((p2.toUInt32 >>> ((3 : Int32) &&& 31).toUInt32).toInt32) &&& (3 : Int32)) - (2 : Int32))), .unset, .unset, .unset] [])) _
    refine XS.iloadN X0.here hx rfl (hb hby at_11) rfl ?_
    show Steps p.tables e below (s₁.setTop (mkF m 12 #[.val (.int p1), .val (.int p2), .val (.int (p1.toUInt32.toUInt16.toUInt32.toInt32)), .val (.int ((((p2.toUInt32 >>> ((3 : Int32) &&& 31).toUInt32).toInt32) &&& (3 : Int32)) - (2 : Int32))), .unset, .unset, .unset] [(.int p2)])) _
    refine XS.bipush X0.here hx rfl (hb hby at_12) ?_
    show Steps p.tables e below (s₁.setTop (mkF m 14 #[.val (.int p1), .val (.int p2), .val (.int (p1.toUInt32.toUInt16.toUInt32.toInt32)), .val (.int ((((p2.toUInt32 >>> ((3 : Int32) &&& 31).toUInt32).toInt32) &&& (3 : Int32)) - (2 : Int32))), .unset, .unset, .unset] [(.int (7 : Int32)), (.int p2)])) _
    refine XS.iand X0.here hx rfl (hb hby at_14) rfl ?_
    show Steps p.tables e below (s₁.setTop (mkF m 15 #[.val (.int p1), .val (.int p2), .val (.int (p1.toUInt32.toUInt16.toUInt32.toInt32)), .val (.int ((((p2.toUInt32 >>> ((3 : Int32) &&& 31).toUInt32).toInt32) &&& (3 : Int32)) - (2 : Int32))), .unset, .unset, .unset] [(.int (p2 &&& (7 : Int32)))])) _
    exact kt
  obtain ⟨_, _, ⟨T2, L2, k2, n2⟩, -, X2, ⟨Lc2, hQ2, l2, y2, z2⟩, st2⟩ := Jvm.LawKit.callS X0 hx (y := (⟨"com/example/permgrid/permgrid/ControlCharactersIsPinLaw", "base", "(I)I"⟩ : MethodName)) hown (mvT hZ (hw _ (own_w 0 rfl))) (mvT hZ (hw _ (own_w 1 rfl))) (mvT hZ (hw _ (own_w 2 rfl))) (mvT hZ (hw _ (own_w 3 rfl))) (by decide) (backOf (W := 0) (rm1 l Z a0 hw [] (p2 &&& (7 : Int32)) h0 n0 Z0 ) hZ (hw _ (own_w 3 rfl)) (hw _ (own_w 2 rfl)) (by decide) (by decide)) (g := (mkF m 15 #[.val (.int p1), .val (.int p2), .val (.int (p1.toUInt32.toUInt16.toUInt32.toInt32)), .val (.int ((((p2.toUInt32 >>> ((3 : Int32) &&& 31).toUInt32).toInt32) &&& (3 : Int32)) - (2 : Int32))), .unset, .unset, .unset] [(.int (p2 &&& (7 : Int32)))])) rfl (by rw [hml]; rfl) (argsL := [(.int (p2 &&& (7 : Int32)))]) (rest := []) (lenOf pd_0 rfl) rfl (by show 2 * 0 + _ ≤ _; exact Nat.le_of_eq rfl) (hb hby at_15) (fun _ _ => ⟨rfl, e0, (by decide : 0 + 0 ≤ _), (by decide : 0 + 0 ≤ _)⟩)
  dsimp only [Pt.U, Pt.locs, Pt.cells, Pt.slots] at X2 l2 y2 z2 st2 hQ2
  subst l2 y2 z2
  obtain ⟨rfl, Nq2, eq2⟩ := hQ2
  have N2 := Fr.app N0 Nq2
  have pre3 : own_Go p e below S0 (T2.setTop (mkF m 24 #[.val (.int p1), .val (.int p2), .val (.int (p1.toUInt32.toUInt16.toUInt32.toInt32)), .val (.int ((((p2.toUInt32 >>> ((3 : Int32) &&& 31).toUInt32).toInt32) &&& (3 : Int32)) - (2 : Int32))), .val (.int (((own_base (p2 &&& (7 : Int32))) + ((((p2.toUInt32 >>> ((3 : Int32) &&& 31).toUInt32).toInt32) &&& (3 : Int32)) - (2 : Int32))).toUInt32.toUInt16.toUInt32.toInt32)), .unset, .unset] [(.int (p1.toUInt32.toUInt16.toUInt32.toInt32))])) := by
    intro t kt
    refine pre1 t ?_
    refine st2 _ ?_
    show Steps p.tables e below (T2.setTop (mkF m 18 #[.val (.int p1), .val (.int p2), .val (.int (p1.toUInt32.toUInt16.toUInt32.toInt32)), .val (.int ((((p2.toUInt32 >>> ((3 : Int32) &&& 31).toUInt32).toInt32) &&& (3 : Int32)) - (2 : Int32))), .unset, .unset, .unset] [(.int (own_base (p2 &&& (7 : Int32))))])) _
    refine XS.iloadN X2.here hx rfl (hb hby at_18) rfl ?_
    show Steps p.tables e below (T2.setTop (mkF m 19 #[.val (.int p1), .val (.int p2), .val (.int (p1.toUInt32.toUInt16.toUInt32.toInt32)), .val (.int ((((p2.toUInt32 >>> ((3 : Int32) &&& 31).toUInt32).toInt32) &&& (3 : Int32)) - (2 : Int32))), .unset, .unset, .unset] [(.int ((((p2.toUInt32 >>> ((3 : Int32) &&& 31).toUInt32).toInt32) &&& (3 : Int32)) - (2 : Int32))), (.int (own_base (p2 &&& (7 : Int32))))])) _
    refine XS.iadd X2.here hx rfl (hb hby at_19) rfl ?_
    show Steps p.tables e below (T2.setTop (mkF m 20 #[.val (.int p1), .val (.int p2), .val (.int (p1.toUInt32.toUInt16.toUInt32.toInt32)), .val (.int ((((p2.toUInt32 >>> ((3 : Int32) &&& 31).toUInt32).toInt32) &&& (3 : Int32)) - (2 : Int32))), .unset, .unset, .unset] [(.int ((own_base (p2 &&& (7 : Int32))) + ((((p2.toUInt32 >>> ((3 : Int32) &&& 31).toUInt32).toInt32) &&& (3 : Int32)) - (2 : Int32))))])) _
    refine XS.i2c X2.here hx rfl (hb hby at_20) rfl ?_
    show Steps p.tables e below (T2.setTop (mkF m 21 #[.val (.int p1), .val (.int p2), .val (.int (p1.toUInt32.toUInt16.toUInt32.toInt32)), .val (.int ((((p2.toUInt32 >>> ((3 : Int32) &&& 31).toUInt32).toInt32) &&& (3 : Int32)) - (2 : Int32))), .unset, .unset, .unset] [(.int (((own_base (p2 &&& (7 : Int32))) + ((((p2.toUInt32 >>> ((3 : Int32) &&& 31).toUInt32).toInt32) &&& (3 : Int32)) - (2 : Int32))).toUInt32.toUInt16.toUInt32.toInt32))])) _
    refine XS.istore X2.here hx rfl (hb hby at_21) rfl (l' := #[.val (.int p1), .val (.int p2), .val (.int (p1.toUInt32.toUInt16.toUInt32.toInt32)), .val (.int ((((p2.toUInt32 >>> ((3 : Int32) &&& 31).toUInt32).toInt32) &&& (3 : Int32)) - (2 : Int32))), .val (.int (((own_base (p2 &&& (7 : Int32))) + ((((p2.toUInt32 >>> ((3 : Int32) &&& 31).toUInt32).toInt32) &&& (3 : Int32)) - (2 : Int32))).toUInt32.toUInt16.toUInt32.toInt32)), .unset, .unset]) rfl ?_
    show Steps p.tables e below (T2.setTop (mkF m 23 #[.val (.int p1), .val (.int p2), .val (.int (p1.toUInt32.toUInt16.toUInt32.toInt32)), .val (.int ((((p2.toUInt32 >>> ((3 : Int32) &&& 31).toUInt32).toInt32) &&& (3 : Int32)) - (2 : Int32))), .val (.int (((own_base (p2 &&& (7 : Int32))) + ((((p2.toUInt32 >>> ((3 : Int32) &&& 31).toUInt32).toInt32) &&& (3 : Int32)) - (2 : Int32))).toUInt32.toUInt16.toUInt32.toInt32)), .unset, .unset] [])) _
    refine XS.iloadN X2.here hx rfl (hb hby at_23) rfl ?_
    show Steps p.tables e below (T2.setTop (mkF m 24 #[.val (.int p1), .val (.int p2), .val (.int (p1.toUInt32.toUInt16.toUInt32.toInt32)), .val (.int ((((p2.toUInt32 >>> ((3 : Int32) &&& 31).toUInt32).toInt32) &&& (3 : Int32)) - (2 : Int32))), .val (.int (((own_base (p2 &&& (7 : Int32))) + ((((p2.toUInt32 >>> ((3 : Int32) &&& 31).toUInt32).toInt32) &&& (3 : Int32)) - (2 : Int32))).toUInt32.toUInt16.toUInt32.toInt32)), .unset, .unset] [(.int (p1.toUInt32.toUInt16.toUInt32.toInt32))])) _
    exact kt
  obtain ⟨_, _, ⟨T4, L4, k4, n4⟩, -, X4, ⟨Lc4, hQ4, l4, y4, z4⟩, st4⟩ := Jvm.LawKit.callS X2 hx (y := (⟨"com/example/permgrid/permgrid/ControlCharacters", "is", "(C)Z"⟩ : MethodName)) hown (mvT hZ (hw _ (own_w 4 rfl))) (mvT hZ (hw _ (own_w 5 rfl))) (mvT hZ (hw _ (own_w 6 rfl))) (mvT hZ (hw _ (own_w 7 rfl))) (by decide) (backOf (W := 0) (rm2 l Z a0 hw [] (p1.toUInt32.toUInt16.toUInt32.toInt32) h0 n0 Z0 ) hZ (hw _ (own_w 7 rfl)) (hw _ (own_w 6 rfl)) (by decide) (by decide)) (g := (mkF m 24 #[.val (.int p1), .val (.int p2), .val (.int (p1.toUInt32.toUInt16.toUInt32.toInt32)), .val (.int ((((p2.toUInt32 >>> ((3 : Int32) &&& 31).toUInt32).toInt32) &&& (3 : Int32)) - (2 : Int32))), .val (.int (((own_base (p2 &&& (7 : Int32))) + ((((p2.toUInt32 >>> ((3 : Int32) &&& 31).toUInt32).toInt32) &&& (3 : Int32)) - (2 : Int32))).toUInt32.toUInt16.toUInt32.toInt32)), .unset, .unset] [(.int (p1.toUInt32.toUInt16.toUInt32.toInt32))])) rfl (by rw [hml]; rfl) (argsL := [(.int (p1.toUInt32.toUInt16.toUInt32.toInt32))]) (rest := []) (lenOf pd_1 rfl) rfl (by show 2 * 0 + _ ≤ _; exact Nat.le_of_eq rfl) (hb hby at_24) (fun _ _ => ⟨rfl, eq2, (by decide : 0 + 0 ≤ _), (by decide : 0 + 0 ≤ _)⟩)
  dsimp only [Pt.U, Pt.locs, Pt.cells, Pt.slots] at X4 l4 y4 z4 st4 hQ4
  subst l4 y4 z4
  obtain ⟨rfl, Nq4, eq4⟩ := hQ4
  have N4 := Fr.app N2 Nq4
  have pre5 : own_Go p e below S0 (T4.setTop (mkF m 28 #[.val (.int p1), .val (.int p2), .val (.int (p1.toUInt32.toUInt16.toUInt32.toInt32)), .val (.int ((((p2.toUInt32 >>> ((3 : Int32) &&& 31).toUInt32).toInt32) &&& (3 : Int32)) - (2 : Int32))), .val (.int (((own_base (p2 &&& (7 : Int32))) + ((((p2.toUInt32 >>> ((3 : Int32) &&& 31).toUInt32).toInt32) &&& (3 : Int32)) - (2 : Int32))).toUInt32.toUInt16.toUInt32.toInt32)), .unset, .unset] [(.int (p1.toUInt32.toUInt16.toUInt32.toInt32)), (.int (own_is (p1.toUInt32.toUInt16.toUInt32.toInt32)))])) := by
    intro t kt
    refine pre3 t ?_
    refine st4 _ ?_
    show Steps p.tables e below (T4.setTop (mkF m 27 #[.val (.int p1), .val (.int p2), .val (.int (p1.toUInt32.toUInt16.toUInt32.toInt32)), .val (.int ((((p2.toUInt32 >>> ((3 : Int32) &&& 31).toUInt32).toInt32) &&& (3 : Int32)) - (2 : Int32))), .val (.int (((own_base (p2 &&& (7 : Int32))) + ((((p2.toUInt32 >>> ((3 : Int32) &&& 31).toUInt32).toInt32) &&& (3 : Int32)) - (2 : Int32))).toUInt32.toUInt16.toUInt32.toInt32)), .unset, .unset] [(.int (own_is (p1.toUInt32.toUInt16.toUInt32.toInt32)))])) _
    refine XS.iloadN X4.here hx rfl (hb hby at_27) rfl ?_
    show Steps p.tables e below (T4.setTop (mkF m 28 #[.val (.int p1), .val (.int p2), .val (.int (p1.toUInt32.toUInt16.toUInt32.toInt32)), .val (.int ((((p2.toUInt32 >>> ((3 : Int32) &&& 31).toUInt32).toInt32) &&& (3 : Int32)) - (2 : Int32))), .val (.int (((own_base (p2 &&& (7 : Int32))) + ((((p2.toUInt32 >>> ((3 : Int32) &&& 31).toUInt32).toInt32) &&& (3 : Int32)) - (2 : Int32))).toUInt32.toUInt16.toUInt32.toInt32)), .unset, .unset] [(.int (p1.toUInt32.toUInt16.toUInt32.toInt32)), (.int (own_is (p1.toUInt32.toUInt16.toUInt32.toInt32)))])) _
    exact kt
  obtain ⟨_, _, ⟨T6, L6, k6, n6⟩, -, X6, ⟨Lc6, hQ6, l6, y6, z6⟩, st6⟩ := Jvm.LawKit.callS X4 hx (y := (⟨"com/example/permgrid/permgrid/ControlCharactersIsPinLaw", "expected", "(C)Z"⟩ : MethodName)) hown (mvT hZ (hw _ (own_w 8 rfl))) (mvT hZ (hw _ (own_w 9 rfl))) (mvT hZ (hw _ (own_w 2 rfl))) (mvT hZ (hw _ (own_w 10 rfl))) (by decide) (backOf (W := 1) (rm3 l Z a0 hw [] (p1.toUInt32.toUInt16.toUInt32.toInt32) h0 n0 Z0 ) hZ (hw _ (own_w 10 rfl)) (hw _ (own_w 2 rfl)) (by decide) (by decide)) (g := (mkF m 28 #[.val (.int p1), .val (.int p2), .val (.int (p1.toUInt32.toUInt16.toUInt32.toInt32)), .val (.int ((((p2.toUInt32 >>> ((3 : Int32) &&& 31).toUInt32).toInt32) &&& (3 : Int32)) - (2 : Int32))), .val (.int (((own_base (p2 &&& (7 : Int32))) + ((((p2.toUInt32 >>> ((3 : Int32) &&& 31).toUInt32).toInt32) &&& (3 : Int32)) - (2 : Int32))).toUInt32.toUInt16.toUInt32.toInt32)), .unset, .unset] [(.int (p1.toUInt32.toUInt16.toUInt32.toInt32)), (.int (own_is (p1.toUInt32.toUInt16.toUInt32.toInt32)))])) rfl (by rw [hml]; rfl) (argsL := [(.int (p1.toUInt32.toUInt16.toUInt32.toInt32))]) (rest := [(.int (own_is (p1.toUInt32.toUInt16.toUInt32.toInt32)))]) (lenOf pd_1 rfl) rfl (by show 2 * 0 + _ ≤ _; exact Nat.le_of_eq rfl) (hb hby at_28) (fun _ _ => ⟨rfl, eq4, (by decide : 0 + 0 ≤ _), (by decide : 0 + 0 ≤ _)⟩)
  dsimp only [Pt.U, Pt.locs, Pt.cells, Pt.slots] at X6 l6 y6 z6 st6 hQ6
  subst l6 y6 z6
  obtain ⟨rfl, Nq6, eq6⟩ := hQ6
  have N6 := Fr.app N4 Nq6
  have pre7 : own_Go p e below S0 (T6.setTop (mkF m 43 #[.val (.int p1), .val (.int p2), .val (.int (p1.toUInt32.toUInt16.toUInt32.toInt32)), .val (.int ((((p2.toUInt32 >>> ((3 : Int32) &&& 31).toUInt32).toInt32) &&& (3 : Int32)) - (2 : Int32))), .val (.int (((own_base (p2 &&& (7 : Int32))) + ((((p2.toUInt32 >>> ((3 : Int32) &&& 31).toUInt32).toInt32) &&& (3 : Int32)) - (2 : Int32))).toUInt32.toUInt16.toUInt32.toInt32)), .val (.int (1 : Int32)), .unset] [(.int (((own_base (p2 &&& (7 : Int32))) + ((((p2.toUInt32 >>> ((3 : Int32) &&& 31).toUInt32).toInt32) &&& (3 : Int32)) - (2 : Int32))).toUInt32.toUInt16.toUInt32.toInt32))])) := by
    intro t kt
    refine pre5 t ?_
    refine st6 _ ?_
    show Steps p.tables e below (T6.setTop (mkF m 31 #[.val (.int p1), .val (.int p2), .val (.int (p1.toUInt32.toUInt16.toUInt32.toInt32)), .val (.int ((((p2.toUInt32 >>> ((3 : Int32) &&& 31).toUInt32).toInt32) &&& (3 : Int32)) - (2 : Int32))), .val (.int (((own_base (p2 &&& (7 : Int32))) + ((((p2.toUInt32 >>> ((3 : Int32) &&& 31).toUInt32).toInt32) &&& (3 : Int32)) - (2 : Int32))).toUInt32.toUInt16.toUInt32.toInt32)), .unset, .unset] [(.int (own_exp (p1.toUInt32.toUInt16.toUInt32.toInt32))), (.int (own_is (p1.toUInt32.toUInt16.toUInt32.toInt32)))])) _
    refine XS.icmpNo X6.here hx rfl (hb hby at_31) rfl (teq (own_same _ (c_i2c _).2.1)).2 ?_
    show Steps p.tables e below (T6.setTop (mkF m 34 #[.val (.int p1), .val (.int p2), .val (.int (p1.toUInt32.toUInt16.toUInt32.toInt32)), .val (.int ((((p2.toUInt32 >>> ((3 : Int32) &&& 31).toUInt32).toInt32) &&& (3 : Int32)) - (2 : Int32))), .val (.int (((own_base (p2 &&& (7 : Int32))) + ((((p2.toUInt32 >>> ((3 : Int32) &&& 31).toUInt32).toInt32) &&& (3 : Int32)) - (2 : Int32))).toUInt32.toUInt16.toUInt32.toInt32)), .unset, .unset] [])) _
    refine XS.iconst X6.here hx rfl (hb hby at_34) ?_
    show Steps p.tables e below (T6.setTop (mkF m 35 #[.val (.int p1), .val (.int p2), .val (.int (p1.toUInt32.toUInt16.toUInt32.toInt32)), .val (.int ((((p2.toUInt32 >>> ((3 : Int32) &&& 31).toUInt32).toInt32) &&& (3 : Int32)) - (2 : Int32))), .val (.int (((own_base (p2 &&& (7 : Int32))) + ((((p2.toUInt32 >>> ((3 : Int32) &&& 31).toUInt32).toInt32) &&& (3 : Int32)) - (2 : Int32))).toUInt32.toUInt16.toUInt32.toInt32)), .unset, .unset] [(.int (1 : Int32))])) _
    refine XS.goto X6.here hx rfl (pc0 := 35) (pc' := 39) rfl (hb hby at_35) (by decide) (by decide) ?_
    show Steps p.tables e below (T6.setTop (mkF m 39 #[.val (.int p1), .val (.int p2), .val (.int (p1.toUInt32.toUInt16.toUInt32.toInt32)), .val (.int ((((p2.toUInt32 >>> ((3 : Int32) &&& 31).toUInt32).toInt32) &&& (3 : Int32)) - (2 : Int32))), .val (.int (((own_base (p2 &&& (7 : Int32))) + ((((p2.toUInt32 >>> ((3 : Int32) &&& 31).toUInt32).toInt32) &&& (3 : Int32)) - (2 : Int32))).toUInt32.toUInt16.toUInt32.toInt32)), .unset, .unset] [(.int (1 : Int32))])) _
    refine XS.istore X6.here hx rfl (hb hby at_39) rfl (l' := #[.val (.int p1), .val (.int p2), .val (.int (p1.toUInt32.toUInt16.toUInt32.toInt32)), .val (.int ((((p2.toUInt32 >>> ((3 : Int32) &&& 31).toUInt32).toInt32) &&& (3 : Int32)) - (2 : Int32))), .val (.int (((own_base (p2 &&& (7 : Int32))) + ((((p2.toUInt32 >>> ((3 : Int32) &&& 31).toUInt32).toInt32) &&& (3 : Int32)) - (2 : Int32))).toUInt32.toUInt16.toUInt32.toInt32)), .val (.int (1 : Int32)), .unset]) rfl ?_
    show Steps p.tables e below (T6.setTop (mkF m 41 #[.val (.int p1), .val (.int p2), .val (.int (p1.toUInt32.toUInt16.toUInt32.toInt32)), .val (.int ((((p2.toUInt32 >>> ((3 : Int32) &&& 31).toUInt32).toInt32) &&& (3 : Int32)) - (2 : Int32))), .val (.int (((own_base (p2 &&& (7 : Int32))) + ((((p2.toUInt32 >>> ((3 : Int32) &&& 31).toUInt32).toInt32) &&& (3 : Int32)) - (2 : Int32))).toUInt32.toUInt16.toUInt32.toInt32)), .val (.int (1 : Int32)), .unset] [])) _
    refine XS.iload X6.here hx rfl (hb hby at_41) rfl ?_
    show Steps p.tables e below (T6.setTop (mkF m 43 #[.val (.int p1), .val (.int p2), .val (.int (p1.toUInt32.toUInt16.toUInt32.toInt32)), .val (.int ((((p2.toUInt32 >>> ((3 : Int32) &&& 31).toUInt32).toInt32) &&& (3 : Int32)) - (2 : Int32))), .val (.int (((own_base (p2 &&& (7 : Int32))) + ((((p2.toUInt32 >>> ((3 : Int32) &&& 31).toUInt32).toInt32) &&& (3 : Int32)) - (2 : Int32))).toUInt32.toUInt16.toUInt32.toInt32)), .val (.int (1 : Int32)), .unset] [(.int (((own_base (p2 &&& (7 : Int32))) + ((((p2.toUInt32 >>> ((3 : Int32) &&& 31).toUInt32).toInt32) &&& (3 : Int32)) - (2 : Int32))).toUInt32.toUInt16.toUInt32.toInt32))])) _
    exact kt
  obtain ⟨_, _, ⟨T8, L8, k8, n8⟩, -, X8, ⟨Lc8, hQ8, l8, y8, z8⟩, st8⟩ := Jvm.LawKit.callS X6 hx (y := (⟨"com/example/permgrid/permgrid/ControlCharacters", "is", "(C)Z"⟩ : MethodName)) hown (mvT hZ (hw _ (own_w 4 rfl))) (mvT hZ (hw _ (own_w 5 rfl))) (mvT hZ (hw _ (own_w 6 rfl))) (mvT hZ (hw _ (own_w 7 rfl))) (by decide) (backOf (W := 0) (rm2 l Z a0 hw [] (((own_base (p2 &&& (7 : Int32))) + ((((p2.toUInt32 >>> ((3 : Int32) &&& 31).toUInt32).toInt32) &&& (3 : Int32)) - (2 : Int32))).toUInt32.toUInt16.toUInt32.toInt32) h0 n0 Z0 ) hZ (hw _ (own_w 7 rfl)) (hw _ (own_w 6 rfl)) (by decide) (by decide)) (g := (mkF m 43 #[.val (.int p1), .val (.int p2), .val (.int (p1.toUInt32.toUInt16.toUInt32.toInt32)), .val (.int ((((p2.toUInt32 >>> ((3 : Int32) &&& 31).toUInt32).toInt32) &&& (3 : Int32)) - (2 : Int32))), .val (.int (((own_base (p2 &&& (7 : Int32))) + ((((p2.toUInt32 >>> ((3 : Int32) &&& 31).toUInt32).toInt32) &&& (3 : Int32)) - (2 : Int32))).toUInt32.toUInt16.toUInt32.toInt32)), .val (.int (1 : Int32)), .unset] [(.int (((own_base (p2 &&& (7 : Int32))) + ((((p2.toUInt32 >>> ((3 : Int32) &&& 31).toUInt32).toInt32) &&& (3 : Int32)) - (2 : Int32))).toUInt32.toUInt16.toUInt32.toInt32))])) rfl (by rw [hml]; rfl) (argsL := [(.int (((own_base (p2 &&& (7 : Int32))) + ((((p2.toUInt32 >>> ((3 : Int32) &&& 31).toUInt32).toInt32) &&& (3 : Int32)) - (2 : Int32))).toUInt32.toUInt16.toUInt32.toInt32))]) (rest := []) (lenOf pd_1 rfl) rfl (by show 2 * 0 + _ ≤ _; exact Nat.le_of_eq rfl) (hb hby at_43) (fun _ _ => ⟨rfl, eq6, (by decide : 0 + 0 ≤ _), (by decide : 0 + 0 ≤ _)⟩)
  dsimp only [Pt.U, Pt.locs, Pt.cells, Pt.slots] at X8 l8 y8 z8 st8 hQ8
  subst l8 y8 z8
  obtain ⟨rfl, Nq8, eq8⟩ := hQ8
  have N8 := Fr.app N6 Nq8
  have pre9 : own_Go p e below S0 (T8.setTop (mkF m 48 #[.val (.int p1), .val (.int p2), .val (.int (p1.toUInt32.toUInt16.toUInt32.toInt32)), .val (.int ((((p2.toUInt32 >>> ((3 : Int32) &&& 31).toUInt32).toInt32) &&& (3 : Int32)) - (2 : Int32))), .val (.int (((own_base (p2 &&& (7 : Int32))) + ((((p2.toUInt32 >>> ((3 : Int32) &&& 31).toUInt32).toInt32) &&& (3 : Int32)) - (2 : Int32))).toUInt32.toUInt16.toUInt32.toInt32)), .val (.int (1 : Int32)), .unset] [(.int (((own_base (p2 &&& (7 : Int32))) + ((((p2.toUInt32 >>> ((3 : Int32) &&& 31).toUInt32).toInt32) &&& (3 : Int32)) - (2 : Int32))).toUInt32.toUInt16.toUInt32.toInt32)), (.int (own_is (((own_base (p2 &&& (7 : Int32))) + ((((p2.toUInt32 >>> ((3 : Int32) &&& 31).toUInt32).toInt32) &&& (3 : Int32)) - (2 : Int32))).toUInt32.toUInt16.toUInt32.toInt32)))])) := by
    intro t kt
    refine pre7 t ?_
    refine st8 _ ?_
    show Steps p.tables e below (T8.setTop (mkF m 46 #[.val (.int p1), .val (.int p2), .val (.int (p1.toUInt32.toUInt16.toUInt32.toInt32)), .val (.int ((((p2.toUInt32 >>> ((3 : Int32) &&& 31).toUInt32).toInt32) &&& (3 : Int32)) - (2 : Int32))), .val (.int (((own_base (p2 &&& (7 : Int32))) + ((((p2.toUInt32 >>> ((3 : Int32) &&& 31).toUInt32).toInt32) &&& (3 : Int32)) - (2 : Int32))).toUInt32.toUInt16.toUInt32.toInt32)), .val (.int (1 : Int32)), .unset] [(.int (own_is (((own_base (p2 &&& (7 : Int32))) + ((((p2.toUInt32 >>> ((3 : Int32) &&& 31).toUInt32).toInt32) &&& (3 : Int32)) - (2 : Int32))).toUInt32.toUInt16.toUInt32.toInt32)))])) _
    refine XS.iload X8.here hx rfl (hb hby at_46) rfl ?_
    show Steps p.tables e below (T8.setTop (mkF m 48 #[.val (.int p1), .val (.int p2), .val (.int (p1.toUInt32.toUInt16.toUInt32.toInt32)), .val (.int ((((p2.toUInt32 >>> ((3 : Int32) &&& 31).toUInt32).toInt32) &&& (3 : Int32)) - (2 : Int32))), .val (.int (((own_base (p2 &&& (7 : Int32))) + ((((p2.toUInt32 >>> ((3 : Int32) &&& 31).toUInt32).toInt32) &&& (3 : Int32)) - (2 : Int32))).toUInt32.toUInt16.toUInt32.toInt32)), .val (.int (1 : Int32)), .unset] [(.int (((own_base (p2 &&& (7 : Int32))) + ((((p2.toUInt32 >>> ((3 : Int32) &&& 31).toUInt32).toInt32) &&& (3 : Int32)) - (2 : Int32))).toUInt32.toUInt16.toUInt32.toInt32)), (.int (own_is (((own_base (p2 &&& (7 : Int32))) + ((((p2.toUInt32 >>> ((3 : Int32) &&& 31).toUInt32).toInt32) &&& (3 : Int32)) - (2 : Int32))).toUInt32.toUInt16.toUInt32.toInt32)))])) _
    exact kt
  obtain ⟨_, _, ⟨T10, L10, k10, n10⟩, -, X10, ⟨Lc10, hQ10, l10, y10, z10⟩, st10⟩ := Jvm.LawKit.callS X8 hx (y := (⟨"com/example/permgrid/permgrid/ControlCharactersIsPinLaw", "expected", "(C)Z"⟩ : MethodName)) hown (mvT hZ (hw _ (own_w 8 rfl))) (mvT hZ (hw _ (own_w 9 rfl))) (mvT hZ (hw _ (own_w 2 rfl))) (mvT hZ (hw _ (own_w 10 rfl))) (by decide) (backOf (W := 1) (rm3 l Z a0 hw [] (((own_base (p2 &&& (7 : Int32))) + ((((p2.toUInt32 >>> ((3 : Int32) &&& 31).toUInt32).toInt32) &&& (3 : Int32)) - (2 : Int32))).toUInt32.toUInt16.toUInt32.toInt32) h0 n0 Z0 ) hZ (hw _ (own_w 10 rfl)) (hw _ (own_w 2 rfl)) (by decide) (by decide)) (g := (mkF m 48 #[.val (.int p1), .val (.int p2), .val (.int (p1.toUInt32.toUInt16.toUInt32.toInt32)), .val (.int ((((p2.toUInt32 >>> ((3 : Int32) &&& 31).toUInt32).toInt32) &&& (3 : Int32)) - (2 : Int32))), .val (.int (((own_base (p2 &&& (7 : Int32))) + ((((p2.toUInt32 >>> ((3 : Int32) &&& 31).toUInt32).toInt32) &&& (3 : Int32)) - (2 : Int32))).toUInt32.toUInt16.toUInt32.toInt32)), .val (.int (1 : Int32)), .unset] [(.int (((own_base (p2 &&& (7 : Int32))) + ((((p2.toUInt32 >>> ((3 : Int32) &&& 31).toUInt32).toInt32) &&& (3 : Int32)) - (2 : Int32))).toUInt32.toUInt16.toUInt32.toInt32)), (.int (own_is (((own_base (p2 &&& (7 : Int32))) + ((((p2.toUInt32 >>> ((3 : Int32) &&& 31).toUInt32).toInt32) &&& (3 : Int32)) - (2 : Int32))).toUInt32.toUInt16.toUInt32.toInt32)))])) rfl (by rw [hml]; rfl) (argsL := [(.int (((own_base (p2 &&& (7 : Int32))) + ((((p2.toUInt32 >>> ((3 : Int32) &&& 31).toUInt32).toInt32) &&& (3 : Int32)) - (2 : Int32))).toUInt32.toUInt16.toUInt32.toInt32))]) (rest := [(.int (own_is (((own_base (p2 &&& (7 : Int32))) + ((((p2.toUInt32 >>> ((3 : Int32) &&& 31).toUInt32).toInt32) &&& (3 : Int32)) - (2 : Int32))).toUInt32.toUInt16.toUInt32.toInt32)))]) (lenOf pd_1 rfl) rfl (by show 2 * 0 + _ ≤ _; exact Nat.le_of_eq rfl) (hb hby at_48) (fun _ _ => ⟨rfl, eq8, (by decide : 0 + 0 ≤ _), (by decide : 0 + 0 ≤ _)⟩)
  dsimp only [Pt.U, Pt.locs, Pt.cells, Pt.slots] at X10 l10 y10 z10 st10 hQ10
  subst l10 y10 z10
  obtain ⟨rfl, Nq10, eq10⟩ := hQ10
  have N10 := Fr.app N8 Nq10
  have pre11 : own_Go p e below S0 (T10.setTop (mkF m 76 #[.val (.int p1), .val (.int p2), .val (.int (p1.toUInt32.toUInt16.toUInt32.toInt32)), .val (.int ((((p2.toUInt32 >>> ((3 : Int32) &&& 31).toUInt32).toInt32) &&& (3 : Int32)) - (2 : Int32))), .val (.int (((own_base (p2 &&& (7 : Int32))) + ((((p2.toUInt32 >>> ((3 : Int32) &&& 31).toUInt32).toInt32) &&& (3 : Int32)) - (2 : Int32))).toUInt32.toUInt16.toUInt32.toInt32)), .val (.int (1 : Int32)), .val (.int (1 : Int32))] [(.int (1 : Int32))])) := by
    intro t kt
    refine pre9 t ?_
    refine st10 _ ?_
    show Steps p.tables e below (T10.setTop (mkF m 51 #[.val (.int p1), .val (.int p2), .val (.int (p1.toUInt32.toUInt16.toUInt32.toInt32)), .val (.int ((((p2.toUInt32 >>> ((3 : Int32) &&& 31).toUInt32).toInt32) &&& (3 : Int32)) - (2 : Int32))), .val (.int (((own_base (p2 &&& (7 : Int32))) + ((((p2.toUInt32 >>> ((3 : Int32) &&& 31).toUInt32).toInt32) &&& (3 : Int32)) - (2 : Int32))).toUInt32.toUInt16.toUInt32.toInt32)), .val (.int (1 : Int32)), .unset] [(.int (own_exp (((own_base (p2 &&& (7 : Int32))) + ((((p2.toUInt32 >>> ((3 : Int32) &&& 31).toUInt32).toInt32) &&& (3 : Int32)) - (2 : Int32))).toUInt32.toUInt16.toUInt32.toInt32))), (.int (own_is (((own_base (p2 &&& (7 : Int32))) + ((((p2.toUInt32 >>> ((3 : Int32) &&& 31).toUInt32).toInt32) &&& (3 : Int32)) - (2 : Int32))).toUInt32.toUInt16.toUInt32.toInt32)))])) _
    refine XS.icmpNo X10.here hx rfl (hb hby at_51) rfl (teq (own_same _ (c_i2c _).2.1)).2 ?_
    show Steps p.tables e below (T10.setTop (mkF m 54 #[.val (.int p1), .val (.int p2), .val (.int (p1.toUInt32.toUInt16.toUInt32.toInt32)), .val (.int ((((p2.toUInt32 >>> ((3 : Int32) &&& 31).toUInt32).toInt32) &&& (3 : Int32)) - (2 : Int32))), .val (.int (((own_base (p2 &&& (7 : Int32))) + ((((p2.toUInt32 >>> ((3 : Int32) &&& 31).toUInt32).toInt32) &&& (3 : Int32)) - (2 : Int32))).toUInt32.toUInt16.toUInt32.toInt32)), .val (.int (1 : Int32)), .unset] [])) _
    refine XS.iconst X10.here hx rfl (hb hby at_54) ?_
    show Steps p.tables e below (T10.setTop (mkF m 55 #[.val (.int p1), .val (.int p2), .val (.int (p1.toUInt32.toUInt16.toUInt32.toInt32)), .val (.int ((((p2.toUInt32 >>> ((3 : Int32) &&& 31).toUInt32).toInt32) &&& (3 : Int32)) - (2 : Int32))), .val (.int (((own_base (p2 &&& (7 : Int32))) + ((((p2.toUInt32 >>> ((3 : Int32) &&& 31).toUInt32).toInt32) &&& (3 : Int32)) - (2 : Int32))).toUInt32.toUInt16.toUInt32.toInt32)), .val (.int (1 : Int32)), .unset] [(.int (1 : Int32))])) _
    refine XS.goto X10.here hx rfl (pc0 := 55) (pc' := 59) rfl (hb hby at_55) (by decide) (by decide) ?_
    show Steps p.tables e below (T10.setTop (mkF m 59 #[.val (.int p1), .val (.int p2), .val (.int (p1.toUInt32.toUInt16.toUInt32.toInt32)), .val (.int ((((p2.toUInt32 >>> ((3 : Int32) &&& 31).toUInt32).toInt32) &&& (3 : Int32)) - (2 : Int32))), .val (.int (((own_base (p2 &&& (7 : Int32))) + ((((p2.toUInt32 >>> ((3 : Int32) &&& 31).toUInt32).toInt32) &&& (3 : Int32)) - (2 : Int32))).toUInt32.toUInt16.toUInt32.toInt32)), .val (.int (1 : Int32)), .unset] [(.int (1 : Int32))])) _
    refine XS.istore X10.here hx rfl (hb hby at_59) rfl (l' := #[.val (.int p1), .val (.int p2), .val (.int (p1.toUInt32.toUInt16.toUInt32.toInt32)), .val (.int ((((p2.toUInt32 >>> ((3 : Int32) &&& 31).toUInt32).toInt32) &&& (3 : Int32)) - (2 : Int32))), .val (.int (((own_base (p2 &&& (7 : Int32))) + ((((p2.toUInt32 >>> ((3 : Int32) &&& 31).toUInt32).toInt32) &&& (3 : Int32)) - (2 : Int32))).toUInt32.toUInt16.toUInt32.toInt32)), .val (.int (1 : Int32)), .val (.int (1 : Int32))]) rfl ?_
    show Steps p.tables e below (T10.setTop (mkF m 61 #[.val (.int p1), .val (.int p2), .val (.int (p1.toUInt32.toUInt16.toUInt32.toInt32)), .val (.int ((((p2.toUInt32 >>> ((3 : Int32) &&& 31).toUInt32).toInt32) &&& (3 : Int32)) - (2 : Int32))), .val (.int (((own_base (p2 &&& (7 : Int32))) + ((((p2.toUInt32 >>> ((3 : Int32) &&& 31).toUInt32).toInt32) &&& (3 : Int32)) - (2 : Int32))).toUInt32.toUInt16.toUInt32.toInt32)), .val (.int (1 : Int32)), .val (.int (1 : Int32))] [])) _
    refine XS.iload X10.here hx rfl (hb hby at_61) rfl ?_
    show Steps p.tables e below (T10.setTop (mkF m 63 #[.val (.int p1), .val (.int p2), .val (.int (p1.toUInt32.toUInt16.toUInt32.toInt32)), .val (.int ((((p2.toUInt32 >>> ((3 : Int32) &&& 31).toUInt32).toInt32) &&& (3 : Int32)) - (2 : Int32))), .val (.int (((own_base (p2 &&& (7 : Int32))) + ((((p2.toUInt32 >>> ((3 : Int32) &&& 31).toUInt32).toInt32) &&& (3 : Int32)) - (2 : Int32))).toUInt32.toUInt16.toUInt32.toInt32)), .val (.int (1 : Int32)), .val (.int (1 : Int32))] [(.int (1 : Int32))])) _
    refine XS.ifNo X10.here hx rfl (hb hby at_63) rfl ((if0 _ _).trans (feq (by decide : ¬ ((1 : Int32) = (0 : Int32)))).1) ?_
    show Steps p.tables e below (T10.setTop (mkF m 66 #[.val (.int p1), .val (.int p2), .val (.int (p1.toUInt32.toUInt16.toUInt32.toInt32)), .val (.int ((((p2.toUInt32 >>> ((3 : Int32) &&& 31).toUInt32).toInt32) &&& (3 : Int32)) - (2 : Int32))), .val (.int (((own_base (p2 &&& (7 : Int32))) + ((((p2.toUInt32 >>> ((3 : Int32) &&& 31).toUInt32).toInt32) &&& (3 : Int32)) - (2 : Int32))).toUInt32.toUInt16.toUInt32.toInt32)), .val (.int (1 : Int32)), .val (.int (1 : Int32))] [])) _
    refine XS.iload X10.here hx rfl (hb hby at_66) rfl ?_
    show Steps p.tables e below (T10.setTop (mkF m 68 #[.val (.int p1), .val (.int p2), .val (.int (p1.toUInt32.toUInt16.toUInt32.toInt32)), .val (.int ((((p2.toUInt32 >>> ((3 : Int32) &&& 31).toUInt32).toInt32) &&& (3 : Int32)) - (2 : Int32))), .val (.int (((own_base (p2 &&& (7 : Int32))) + ((((p2.toUInt32 >>> ((3 : Int32) &&& 31).toUInt32).toInt32) &&& (3 : Int32)) - (2 : Int32))).toUInt32.toUInt16.toUInt32.toInt32)), .val (.int (1 : Int32)), .val (.int (1 : Int32))] [(.int (1 : Int32))])) _
    refine XS.ifNo X10.here hx rfl (hb hby at_68) rfl ((if0 _ _).trans (feq (by decide : ¬ ((1 : Int32) = (0 : Int32)))).1) ?_
    show Steps p.tables e below (T10.setTop (mkF m 71 #[.val (.int p1), .val (.int p2), .val (.int (p1.toUInt32.toUInt16.toUInt32.toInt32)), .val (.int ((((p2.toUInt32 >>> ((3 : Int32) &&& 31).toUInt32).toInt32) &&& (3 : Int32)) - (2 : Int32))), .val (.int (((own_base (p2 &&& (7 : Int32))) + ((((p2.toUInt32 >>> ((3 : Int32) &&& 31).toUInt32).toInt32) &&& (3 : Int32)) - (2 : Int32))).toUInt32.toUInt16.toUInt32.toInt32)), .val (.int (1 : Int32)), .val (.int (1 : Int32))] [])) _
    refine XS.iconst X10.here hx rfl (hb hby at_71) ?_
    show Steps p.tables e below (T10.setTop (mkF m 72 #[.val (.int p1), .val (.int p2), .val (.int (p1.toUInt32.toUInt16.toUInt32.toInt32)), .val (.int ((((p2.toUInt32 >>> ((3 : Int32) &&& 31).toUInt32).toInt32) &&& (3 : Int32)) - (2 : Int32))), .val (.int (((own_base (p2 &&& (7 : Int32))) + ((((p2.toUInt32 >>> ((3 : Int32) &&& 31).toUInt32).toInt32) &&& (3 : Int32)) - (2 : Int32))).toUInt32.toUInt16.toUInt32.toInt32)), .val (.int (1 : Int32)), .val (.int (1 : Int32))] [(.int (1 : Int32))])) _
    refine XS.goto X10.here hx rfl (pc0 := 72) (pc' := 76) rfl (hb hby at_72) (by decide) (by decide) ?_
    show Steps p.tables e below (T10.setTop (mkF m 76 #[.val (.int p1), .val (.int p2), .val (.int (p1.toUInt32.toUInt16.toUInt32.toInt32)), .val (.int ((((p2.toUInt32 >>> ((3 : Int32) &&& 31).toUInt32).toInt32) &&& (3 : Int32)) - (2 : Int32))), .val (.int (((own_base (p2 &&& (7 : Int32))) + ((((p2.toUInt32 >>> ((3 : Int32) &&& 31).toUInt32).toInt32) &&& (3 : Int32)) - (2 : Int32))).toUInt32.toUInt16.toUInt32.toInt32)), .val (.int (1 : Int32)), .val (.int (1 : Int32))] [(.int (1 : Int32))])) _
    exact kt
  obtain ⟨fs, hr, hrun, hended, hW, hsame⟩ := X10.leave (v := some (.int (1 : Int32))) (fun h => by rw [Bd.returns] at h; cases h)
  refine ⟨_, _, fin _ (pre11 _ ?_), hrun, hended, _, _, rfl, ?_, ⟨_, rfl⟩, hW, hsame.mono (by decide) (by decide)⟩
  · exact retN X10 hx (t := .boolean) Bd.returns (by simp) (hb hby at_76) hr
  · show Q0 Z p1 p2 h0 n0 _ T10.heap _
    rw [eq10]
    exact ⟨rfl, N10⟩

set_option maxRecDepth 65536 in
set_option maxHeartbeats 40000000 in
theorem comes_1 {Post : Tables → Env → Array Value → State → Outcome → State → Prop} (hpost : ∀ tb e args s v u, (limb_1_1.after args s (.returned v) u = true ∧ limb_1_2.after args s (.returned v) u = true ∧ True) → FrameEnd s (.returned v) u (Jvm.fieldLocs frame_1_writes args s ++ Jvm.arrayLocs frame_1_arrays args s ++ Jvm.staticLocs frame_1_statics s) 0 0 → Post tb e args s (.returned v) u) :
    ArmFor flags0 classFile x code maxLocals ret World_1 tables_1 room_1 Calls_1 rest_1 Pre_1 Post := by
  intro l hfl _ _ p e ha hc hk s m args below hf hA hF happ hP
  obtain ⟨hcalls, hrest, hpre⟩ := hP
  obtain ⟨-, -, -, hnamed, -, -, -, hat⟩ := (Spec.applies_iff hf).mp happ
  obtain ⟨hg, hn⟩ := and_e (Cond.before_iff.mp (show (Jvm.Cond.and given_1 narrow_1).before args s = true from hpre))
  obtain ⟨hcount, hg0⟩ := and_e hg
  obtain ⟨ga0, hg1⟩ := and_e hg0
  have ga1 := hg1
  obtain ⟨w0, w1, rfl⟩ : ∃ w0 w1 : Value, args = #[w0, w1] := by
    have hs : args.size = 2 := by simpa [Cond.value, given_1] using hcount
    obtain ⟨L⟩ := args
    match L, hs with
    | [w0, w1], _ => exact ⟨w0, w1, rfl⟩
  have hw := fun d (hd : d ∈ tables_1) => atoms_spec (ws := Jvm.Cond.code x code maxLocals ret :: tables_1) hat d (List.mem_cons_of_mem _ hd)
  have hfit : Fit s := fun {y c} hc i hi => by
    obtain ⟨ha, rfl⟩ := Array.getElem?_eq_some_iff.mp hc
    have q := List.all_eq_true.mp ((Array.all_eq_true_iff_forall_mem.mp hF) _ (Array.getElem_mem ha)) i (List.mem_range.mpr hi)
    simpa [Array.getElem?_eq_getElem hi] using q
  obtain ⟨i0, ei0⟩ := is_v ga0
  obtain rfl : w0 = (.int i0) := Option.some.inj ei0
  obtain ⟨i1, ei1⟩ := is_v ga1
  obtain rfl : w1 = (.int i1) := Option.some.inj ei1
  obtain ⟨n, o, h1, h2, h3, _, L, rfl, ⟨rfl, N⟩, hq⟩ := rm0 l s _ hw tables_1 i0 i1 s.heap s.heap.size (Nat.le_refl _)  p e ha hc hk s m _ below hf ((Spec.applies_iff_loose hf).mp happ).1 ⟨rfl, State.Warmed39.refl s, rfl⟩ trivial
  refine ⟨n, _, h1, h2, h3, hpost _ _ _ _ _ _ ⟨Cond.after_iff.mpr rfl, Cond.after_iff.mpr (eq_i res_at (Term.int_eval (1)) rfl), trivial⟩ ⟨hq.1, hq.2.1, (hq.2.2.sift fun y hy => Or.inr (N y hy)).mono (by decide) (by decide)⟩⟩
theorem main_1_1 : Claimed_1_1 := comes_1 fun _ _ _ _ _ _ h hF => ⟨h.1, hF⟩
theorem main_1_2 : Claimed_1_2 := comes_1 fun _ _ _ _ _ _ h hF => ⟨h.2.1, hF⟩

end Jvm.Pilot.@@N@@
namespace Jvm.Pilot.@@N@@
open Jvm Jvm.ClassFile Sem Op Lib Jvm.Free Jvm.Stand Jvm.Pilot.@@N@@.Jvm.D
/-! MADE BY PROGRAM (witnessworld.py) out of the Statement's table words and the real class files: 7 classes; the members and pool entries that the words name. The judged class is class 1, her method 3. -/
namespace start1
open Jvm.ClassFile
def u (s : String) : CpInfo := .utf8 (stringToUtf16 s)
/-- a pool by its gaps: so many unusable entries, then the entry; so many at the end -/
def gap : Nat → List CpInfo → List CpInfo
  | 0, r => r
  | n + 1, r => .unusable :: gap n r
def poolList (es : List (Nat × CpInfo)) (last : Nat) : List CpInfo := es.foldr (fun e r => gap e.1 (e.2 :: r)) (gap last [])
def pool (es : List (Nat × CpInfo)) (last : Nat) : Array CpInfo := ⟨poolList es last⟩
def fileOf (pool : Array CpInfo) (this : Nat) (attrs : Array Attribute := #[]) (ms : Array MethodInfo := #[]) (fl : Nat := 33) (sup : Nat := 0) (ifs : Array Nat := #[]) (fds : Array FieldInfo := #[]) : ClassFile where
  minorVersion := 0
  majorVersion := 65
  constantPool := pool
  accessFlags := fl
  thisClass := this
  superClass := sup
  interfaces := ifs
  fields := fds
  methods := ms
  attributes := attrs
def plain (name : String) (sup : Option ClassId) : Class where
  name := name
  kind := .ordinary
  loader := none
  accessFlags := 33
  super := sup
  interfaces := #[]
  cf := none
  fields := #[]
  methods := #[]
  instanceTypes := #[]
  staticTypes := #[]
  resolved := #[]
  callSites := []
  init := .initialized
  statics := none
  mirror := none

def pool0 : Array CpInfo := pool [(5, u "<init>"), (0, u "()V"), (1, .class_ 10), (1, u "java/lang/Object")] 113

def k0m0 : Method := { name := "<init>", desc := "()V", sig := { parameters := [], returnType := none }, accessFlags := 1, code := none }
/-- java/lang/Object -/
def k0 : Class := { plain "java/lang/Object" none with
  accessFlags := 33
  interfaces := #[]
  cf := some (fileOf pool0 8 #[] #[{ accessFlags := 1, nameIndex := 5, descriptorIndex := 6, attributes := #[] }] 33 0 #[] #[])
  fields := #[]
  methods := #[k0m0]
  instanceTypes := #[]
  staticTypes := #[]
  resolved := Array.replicate 124 none
  statics := none }

def pool1 : Array CpInfo := pool [(2, .class_ 4), (1, u "java/lang/Object"), (0, u "<init>"), (0, u "()V"), (0, .integer 65535), (0, .methodref 9 10), (0, .class_ 11), (0, .nameAndType 12 13), (0, u "com/example/permgrid/permgrid/ControlCharactersIsPinLaw"), (0, u "base"), (0, u "(I)I"), (0, .methodref 15 16), (0, .class_ 17), (0, .nameAndType 18 19), (0, u "com/example/permgrid/permgrid/ControlCharacters"), (0, u "is"), (0, u "(C)Z"), (0, .methodref 9 21), (0, .nameAndType 22 19), (0, u "expected"), (3, u "law"), (0, u "(II)Z")] 2

def k1m0 : Method := { name := "<init>", desc := "()V", sig := { parameters := [], returnType := none }, accessFlags := 2, code := none }
def k1c1 : Code := { maxStack := 2, maxLocals := 6, code := method_2_code, exceptionTable := #[], attributes := #[] }
def k1m1 : Method := { name := "expected", desc := "(C)Z", sig := { parameters := [.char], returnType := some .boolean }, accessFlags := 10, code := some k1c1 }
def k1c2 : Code := { maxStack := 2, maxLocals := 1, code := method_3_code, exceptionTable := #[], attributes := #[] }
def k1m2 : Method := { name := "base", desc := "(I)I", sig := { parameters := [.int], returnType := some .int }, accessFlags := 10, code := some k1c2 }
def k1c3 : Code := { maxStack := 2, maxLocals := 7, code := code, exceptionTable := #[], attributes := #[] }
def k1m3 : Method := { name := "law", desc := "(II)Z", sig := { parameters := [.int, .int], returnType := some .boolean }, accessFlags := 9, code := some k1c3 }
/-- com/example/permgrid/permgrid/ControlCharactersIsPinLaw -/
def k1 : Class := { plain "com/example/permgrid/permgrid/ControlCharactersIsPinLaw" (some 0) with
  accessFlags := 49
  interfaces := #[]
  cf := some (fileOf pool1 9 #[] #[{ accessFlags := 2, nameIndex := 5, descriptorIndex := 6, attributes := #[] }, { accessFlags := 10, nameIndex := 22, descriptorIndex := 19, attributes := #[] }, { accessFlags := 10, nameIndex := 12, descriptorIndex := 13, attributes := #[] }, { accessFlags := 9, nameIndex := 26, descriptorIndex := 27, attributes := #[] }] 49 2 #[] #[])
  fields := #[]
  methods := #[k1m0, k1m1, k1m2, k1m3]
  instanceTypes := #[]
  staticTypes := #[]
  resolved := Array.replicate 30 none
  statics := none }

def pool2 : Array CpInfo := pool [(2, .class_ 4), (1, u "java/lang/Object"), (0, u "<init>"), (0, u "()V"), (11, .class_ 20), (1, u "com/example/permgrid/permgrid/ControlCharacters"), (0, u "is"), (0, u "(C)Z")] 7

def k2m0 : Method := { name := "<init>", desc := "()V", sig := { parameters := [], returnType := none }, accessFlags := 2, code := none }
def k2c1 : Code := { maxStack := 2, maxLocals := 1, code := prog_13_method_2_code, exceptionTable := #[], attributes := #[] }
def k2m1 : Method := { name := "is", desc := "(C)Z", sig := { parameters := [.char], returnType := some .boolean }, accessFlags := 8, code := some k2c1 }
/-- com/example/permgrid/permgrid/ControlCharacters -/
def k2 : Class := { plain "com/example/permgrid/permgrid/ControlCharacters" (some 0) with
  accessFlags := 48
  interfaces := #[]
  cf := some (fileOf pool2 18 #[] #[{ accessFlags := 2, nameIndex := 5, descriptorIndex := 6, attributes := #[] }, { accessFlags := 8, nameIndex := 21, descriptorIndex := 22, attributes := #[] }] 48 2 #[] #[])
  fields := #[]
  methods := #[k2m0, k2m1]
  instanceTypes := #[]
  staticTypes := #[]
  resolved := Array.replicate 30 none
  statics := none }

def pool3 : Array CpInfo := pool [(1, u "java/lang/Cloneable"), (0, .class_ 1), (0, u "java/lang/Object"), (0, .class_ 3)] 3

/-- java/lang/Cloneable -/
def k3 : Class := { plain "java/lang/Cloneable" (some 0) with
  accessFlags := 1537
  interfaces := #[]
  cf := some (fileOf pool3 2 #[] #[] 1537 4 #[] #[])
  fields := #[]
  methods := #[]
  instanceTypes := #[]
  staticTypes := #[]
  resolved := Array.replicate 8 none
  statics := none }

def pool4 : Array CpInfo := pool [(1, u "java/io/Serializable"), (0, .class_ 1), (0, u "java/lang/Object"), (0, .class_ 3)] 3

/-- java/io/Serializable -/
def k4 : Class := { plain "java/io/Serializable" (some 0) with
  accessFlags := 1537
  interfaces := #[]
  cf := some (fileOf pool4 2 #[] #[] 1537 4 #[] #[])
  fields := #[]
  methods := #[]
  instanceTypes := #[]
  staticTypes := #[]
  resolved := Array.replicate 8 none
  statics := none }

/-- the primitive byte -/
def k5 : Class := { plain "byte" none with kind := .primitive 'B', accessFlags := 0x411 }
/-- [B -/
def k6 : Class := { plain "[B" (some 0) with kind := .array 5 .byte, interfaces := #[3, 4], accessFlags := 1041 }

def heap : Heap := #[]
def classes : Array Class := #[k0, k1, k2, k3, k4, k5, k6]
def interned : List (Array UInt16 × Addr) := []
def slotsUsed : Nat := 0
def theMethod : MethodId := ⟨1, 3⟩
def args0 : Array Value := #[.int 5, .int 3]
def aboutOver (below : List Frame) : State where
  vm := { classes := classes, interned := interned.toArray }
  heap := heap
  slotsUsed := slotsUsed
  threads := #[{ frames := .invoking theMethod args0 :: below }]
def below0 : List Frame := [.native { method := ⟨0, 0⟩, args := #[] }]
def about1 : State := aboutOver below0
def p0 : Program := .bare "" "" ""
def e0 : Env := launch0.env 0 0 0
theorem w_frames : about1.frames = Frame.invoking theMethod args0 :: below0 := rfl
set_option maxRecDepth 65536 in
theorem w_args : argsFit about1.vm theMethod args0 = true := by decide +kernel
set_option maxRecDepth 65536 in
theorem w_heap : heapFits about1 = true := by decide +kernel
set_option maxRecDepth 65536 in
theorem w_runnable : about1.curStatus? = some .runnable := by decide +kernel
set_option maxRecDepth 65536 in
theorem w_alone : about1.alone = true := by decide +kernel
set_option maxRecDepth 65536 in
theorem w_named : about1.methodNamed? x = some theMethod := by decide +kernel
set_option maxRecDepth 65536 in
theorem w_hears : about1.hears theMethod below0 = true := by decide +kernel
set_option maxRecDepth 65536 in
theorem w_ripe : about1.ripe theMethod args0 below0 = true := by decide +kernel
theorem w_running : about1.status = .running := rfl
set_option maxRecDepth 65536 in
theorem w_room : about1.hasRoom e0.platform room_1 = true :=
  launch0.hasRoom_least _ room_1 (by decide +kernel) (by decide +kernel) (by decide +kernel) (by decide +kernel) (by decide +kernel) (by decide +kernel)
theorem allAtoms_all (ts : List Jvm.Cond) (a : Array Jvm.Value) (st : Jvm.State) : (allAtoms ts).before a st = ts.all (fun c => c.before a st) := by
  induction ts with
  | nil => rfl
  | cons c t ih =>
    show (Jvm.Cond.and c (allAtoms t)).before a st = _
    rw [Jvm.Cond.before_and, ih, List.all_cons]
def words1 : List Jvm.Cond := Jvm.Cond.code x code maxLocals ret :: tables_1
/-- a 'code' word, met by the world's own term for the bytes: nothing is compared byte by byte -/
theorem code_word {y : MethodName} {bytes : ByteArray} {mx : Nat} {rt : Option FieldType} {a : Array Value} {s : State} {m : MethodId} {meth : Method} {c : Code} (h1 : s.methodNamed? y = some m) (h2 : s.vm.method? m = some meth) (h3 : meth.code = some c) (h4 : c.code = bytes)
    (h5 : (c.maxLocals == mx && c.exceptionTable.isEmpty && decide (c.maxStack ≤ mostOperands) && decide (meth.sig.returnType = rt) && !meth.locks && decide (parseMethodDescriptor y.desc = some meth.sig)) = true) : (Jvm.Cond.code y bytes mx rt).before a s = true := by
  simp only [Bool.and_eq_true, beq_iff_eq, Bool.not_eq_true', decide_eq_true_eq] at h5
  obtain ⟨⟨⟨⟨⟨g1, g2⟩, g3⟩, g4⟩, g5⟩, g6⟩ := h5
  simp [Cond.before, Cond.holds, Cond.value, h1, h2, h3, h4, g1, g2, g3, g4, g5, g6]
def isCode : Jvm.Cond → Bool
  | .code _ _ _ _ => true
  | _ => false
theorem all_split {L : List Jvm.Cond} {P : Jvm.Cond → Bool} (h1 : L.all (fun c => isCode c || P c) = true) (h2 : ∀ c ∈ L.filter isCode, P c = true) : L.all P = true := by
  refine List.all_eq_true.mpr fun c hc => ?_
  have h := List.all_eq_true.mp h1 c hc
  rcases Bool.eq_false_or_eq_true (isCode c) with hi | hi
  · exact h2 c (List.mem_filter.mpr ⟨hc, hi⟩)
  · simpa [hi] using h
set_option maxRecDepth 65536 in
theorem w_c0 : (Jvm.Cond.code x code maxLocals ret).before args0 about1 = true := code_word (m := ⟨1, 3⟩) (meth := k1m3) (c := k1c3) (by decide +kernel) rfl rfl rfl (by decide +kernel)
set_option maxRecDepth 65536 in
theorem w_c1 : (Jvm.Cond.code ({ cls := "com/example/permgrid/permgrid/ControlCharactersIsPinLaw", name := "base", desc := "(I)I" } : Jvm.MethodName) method_3_code (1 : Nat) (Option.some Jvm.ClassFile.FieldType.int)).before args0 about1 = true := code_word (m := ⟨1, 2⟩) (meth := k1m2) (c := k1c2) (by decide +kernel) rfl rfl rfl (by decide +kernel)
set_option maxRecDepth 65536 in
theorem w_c2 : (Jvm.Cond.code ({ cls := "com/example/permgrid/permgrid/ControlCharacters", name := "is", desc := "(C)Z" } : Jvm.MethodName) prog_13_method_2_code (1 : Nat) (Option.some Jvm.ClassFile.FieldType.boolean)).before args0 about1 = true := code_word (m := ⟨2, 1⟩) (meth := k2m1) (c := k2c1) (by decide +kernel) rfl rfl rfl (by decide +kernel)
set_option maxRecDepth 65536 in
theorem w_c3 : (Jvm.Cond.code ({ cls := "com/example/permgrid/permgrid/ControlCharactersIsPinLaw", name := "expected", desc := "(C)Z" } : Jvm.MethodName) method_2_code (6 : Nat) (Option.some Jvm.ClassFile.FieldType.boolean)).before args0 about1 = true := code_word (m := ⟨1, 1⟩) (meth := k1m1) (c := k1c1) (by decide +kernel) rfl rfl rfl (by decide +kernel)
def codes1 : List Jvm.Cond := [Jvm.Cond.code x code maxLocals ret, Jvm.Cond.code ({ cls := "com/example/permgrid/permgrid/ControlCharactersIsPinLaw", name := "base", desc := "(I)I" } : Jvm.MethodName) method_3_code (1 : Nat) (Option.some Jvm.ClassFile.FieldType.int), Jvm.Cond.code ({ cls := "com/example/permgrid/permgrid/ControlCharacters", name := "is", desc := "(C)Z" } : Jvm.MethodName) prog_13_method_2_code (1 : Nat) (Option.some Jvm.ClassFile.FieldType.boolean), Jvm.Cond.code ({ cls := "com/example/permgrid/permgrid/ControlCharactersIsPinLaw", name := "expected", desc := "(C)Z" } : Jvm.MethodName) method_2_code (6 : Nat) (Option.some Jvm.ClassFile.FieldType.boolean)]
set_option maxRecDepth 65536 in
theorem codes_eq : words1.filter isCode = codes1 := rfl
theorem w_codes : ∀ c ∈ words1.filter isCode, c.before args0 about1 = true := by
  rw [codes_eq]
  intro c hc
  simp only [codes1, List.mem_cons, List.not_mem_nil, or_false] at hc
  rcases hc with rfl | rfl | rfl | rfl
  · exact w_c0
  · exact w_c1
  · exact w_c2
  · exact w_c3
set_option maxRecDepth 65536 in
theorem w_t1 : words1.all (fun c => isCode c || c.before args0 about1) = true := by decide +kernel
theorem w_tables : (allAtoms (Jvm.Cond.code x code maxLocals ret :: tables_1)).before args0 about1 = true := by
  rw [allAtoms_all]
  show words1.all (fun c => c.before args0 about1) = true
  refine all_split ?_ w_codes
  rw [w_t1]
set_option maxRecDepth 65536 in
theorem w_case : (Jvm.Cond.and given_1 narrow_1).before args0 about1 = true := by decide +kernel
theorem w_applies : (headSpec (Jvm.Cond.code x code maxLocals ret :: tables_1) room_1).applies x e0.platform about1 = true :=
  (Spec.applies_iff w_frames).mpr ⟨w_running, w_runnable, w_alone, w_named, w_hears, w_ripe, w_room, w_tables⟩
theorem atStart : AtStart classFile x code maxLocals ret World_1 tables_1 room_1 Calls_1 rest_1 Pre_1 launch0 p0 e0 about1 theMethod args0 below0 :=
  ⟨lists_1, trivial, launch0.admits_env _ _ _, launch0.least_env, fairChoices_fair.cas, fairChoices_fair.clock, w_frames, w_args, w_heap, w_applies, trivial, trivial, w_case⟩
end start1
theorem witness_1 : WitnessClaimed_1 := ⟨start1.p0, start1.e0, start1.about1, start1.theMethod, start1.args0, start1.below0, start1.atStart⟩
end Jvm.Pilot.@@N@@
