import JvmDerived
import JvmDerived.Pilot.@@N@@Statement
import JvmDerived.Pilot.@@N@@Code
set_option linter.unusedVariables false
set_option linter.unusedSimpArgs false
namespace Jvm.Pilot.@@N@@
open Jvm Jvm.ClassFile Sem Op Lib Jvm.Free Jvm.Stand Jvm.LawKit Jvm.RoadKit Bundle Jvm.Pilot.@@N@@.Jvm.D
theorem own_w (i : Nat) {d : Jvm.Cond} (h : tables_1[i]? = some d) : d ∈ tables_1 := List.mem_of_getElem? h
def own_Go (p : Program) (e : Env) (below : List Frame) (A B : State) : Prop := ∀ t, Steps p.tables e below B t → Steps p.tables e below A t
section OwnKit
variable {p : Program} {l : Launch} {e : Env} {R : Room} {s : State} {m : MethodId} {args : Array Value} {below : List Frame} {meth : Method} {c : Code} {T : State} {locs : List Loc} {cells slots : Nat}
theorem retI (X : Stand p l e R s m args below meth c T locs cells slots) (hx : p.tables.exec = Jvm.exec) {pc : Nat} {Ls : Array Slot} {z : Int32} {rest : List Value} (hret : meth.sig.returnType = some .int) (hd : decode c.code pc = .ok (.ireturn, 1)) {fs : List Frame}
    (hl : ∀ (f : JFrame) (acts : List Action), f.method = m → f.locked = none → f.entered = [] → (doReturn e (T.setTop f) acts (some (.int z))).1 = T.setFrames fs) : Steps p.tables e below (T.setTop (mkF m pc Ls (.int z :: rest))) (T.setFrames fs) :=
  retOut X hx hret rfl (Or.inl ⟨rfl, Or.inl rfl, z, rfl⟩) hd hl
theorem own_retR (X : Stand p l e R s m args below meth c T locs cells slots) (hx : p.tables.exec = Jvm.exec) {pc : Nat} {Ls : Array Slot} {w : Value} {t : FieldType} {rest : List Value} (hret : meth.sig.returnType = some t) (ht : t.isReference = true) (hw : w.isRef = true) (hd : decode c.code pc = .ok (.areturn, 1)) {fs : List Frame}
    (hl : ∀ (f : JFrame) (acts : List Action), f.method = m → f.locked = none → f.entered = [] → (doReturn e (T.setTop f) acts (some w)).1 = T.setFrames fs) : Steps p.tables e below (T.setTop (mkF m pc Ls (w :: rest))) (T.setFrames fs) :=
  retOut X hx hret (by cases t <;> cases w <;> simp_all [FieldType.isReference, Value.isRef, narrow]) (Or.inr (Or.inr (Or.inr (Or.inr ⟨rfl, ht, hw⟩)))) hd hl
end OwnKit

theorem own_eqI {args : Array Value} {first s : State} {o : Option Outcome} {idx : List Nat} {t : Term} {k : Int32} (h : (Jvm.Cond.eq t (.int k)).value args first o s idx = some true) : t.eval args first o idx s = some (.int k) := by
  obtain ⟨x, y, h1, h2, h3, h4⟩ := cmp_v (Or.inl h)
  obtain rfl : y = .int k := by simpa [Term.eval] using h2.symm
  obtain ⟨z, rfl⟩ := h4
  simp [Cond.value, h1, h2] at h
  subst h
  exact h1

theorem own_selPriv {s : State} {args : Array Value} {n : Nat} {y : MethodName} (hy : y.cls ≠ "java/lang/invoke/MethodHandle" ∧ y.cls ≠ "java/lang/invoke/VarHandle") (hins : (Jvm.Cond.instantiable y.cls n).before args s = true) (hpriv : (Jvm.Cond.privateMethod y).before args s = true) (hinst : (Jvm.Cond.instanceMethod y).before args s = true) :
    (Jvm.Cond.selects y.cls y y).before args s = true := by
  obtain ⟨c, k, hc, hk, -, hniab, -, -⟩ := Cond.instantiable_spec hins
  have hni : k.isInterface = false := (Bool.or_eq_false_iff.mp hniab).1
  obtain ⟨mk, methM, hnamed, hmethM, -, -⟩ := Cond.instanceMethod_spec hinst
  have hfound : s.methodFound? y.cls y.name y.desc = some mk := State.methodFound?_of_named hnamed hy
  have hcls : mk.cls = c := Option.some.inj ((findClass_of_methodNamed hnamed).symm.trans hc)
  have hsel : selectMethod {} s.vm c mk = .method mk := selectMethod_private hmethM (Cond.privateMethod_at hpriv mk methM hnamed hmethM)
  simp only [Cond.before, Cond.holds, Cond.value, hc, hfound, hnamed, hsel, hcls, hk]
  simp; exact hni
theorem own_selPriv2 {s : State} {args : Array Value} {y z : MethodName} (hyz : z.cls = y.cls) (hy : y.cls ≠ "java/lang/invoke/MethodHandle" ∧ y.cls ≠ "java/lang/invoke/VarHandle") (h0 : (Jvm.Cond.selects y.cls z z).before args s = true) (hpriv : (Jvm.Cond.privateMethod y).before args s = true) (hinst : (Jvm.Cond.instanceMethod y).before args s = true) :
    (Jvm.Cond.selects y.cls y y).before args s = true := by
  obtain ⟨c, r, m, hc, -, hn, -, k, hk, hni⟩ := Cond.selects_spec h0
  obtain ⟨mk, methM, hnamed, hmethM, -, -⟩ := Cond.instanceMethod_spec hinst
  have hfound : s.methodFound? y.cls y.name y.desc = some mk := State.methodFound?_of_named hnamed hy
  have hcls : mk.cls = c := Option.some.inj ((findClass_of_methodNamed hnamed).symm.trans hc)
  have hm : m.cls = c := Option.some.inj ((findClass_of_methodNamed hn).symm.trans (by rw [hyz]; exact hc))
  have hsel : selectMethod {} s.vm c mk = .method mk := selectMethod_private hmethM (Cond.privateMethod_at hpriv mk methM hnamed hmethM)
  rw [hm] at hk
  simp only [Cond.before, Cond.holds, Cond.value, hc, hfound, hnamed, hsel, hcls, hk]
  simp; exact hni

def own_SC (Z : State) (wC : Int32) : Prop := Sta Z Z.heap "java/lang/String" "COMPACT_STRINGS" "Z" (.int wC) ∧ ¬ wC = (0 : Int32)
def own_SU (Z : State) : Prop := Sta Z Z.heap "java/lang/StringUTF16" "$assertionsDisabled" "Z" (.int (1 : Int32)) ∧ Sta Z Z.heap "java/lang/StringUTF16" "HI_BYTE_SHIFT" "I" (.int (0 : Int32)) ∧ Sta Z Z.heap "java/lang/StringUTF16" "LO_BYTE_SHIFT" "I" (.int (8 : Int32))
def own_SF (Z : State) (wF : Value) : Prop := Sta Z Z.heap "jdk/internal/util/Preconditions" "SIOOBE_FORMATTER" "Ljava/util/function/BiFunction;" wF ∧ wF.isRef = true

theorem own_cat {v : Value} (h : v.isRef = true) : v.category = 1 := by cases v <;> simp_all [Value.isRef, Value.category]
theorem own_narR {C : String} {v : Value} (h : v.isRef = true) : narrow (.object C) v = v := by cases v <;> simp_all [Value.isRef, narrow]
theorem own_fitR {C : String} {v : Value} (h : v.isRef = true) : fits (.object C) v = true := by cases v <;> simp_all [Value.isRef, fits]
theorem own_catR (a : Addr) : (Value.ref a).category = 1 := rfl
theorem own_catI (a : Int32) : (Value.int a).category = 1 := rfl
def own_OR (Z : State) (h : Heap) (v : Value) : Prop := v.isRef = true ∧ ∀ a, v = .ref a → Exa Z h a "java/lang/String"
theorem own_OR.ext {Z : State} {h h' : Heap} {v : Value} (F : own_OR Z h v) (E : Ext h h') : own_OR Z h' v := ⟨F.1, fun a q => (F.2 a q).ext E⟩
theorem own_OR.keep {Z : State} {h h' : Heap} {v : Value} {ws : List Addr} (F : own_OR Z h v) (K : Keep h h' ws) : own_OR Z h' v := ⟨F.1, fun a q => (F.2 a q).keep K⟩
theorem own_OR.null {Z : State} {h : Heap} : own_OR Z h .null := ⟨rfl, fun _ q => nomatch q⟩
theorem own_OR.of {Z : State} {h : Heap} {a : Addr} (E : Exa Z h a "java/lang/String") : own_OR Z h (.ref a) := ⟨rfl, fun b q => by cases q; exact E⟩
def own_given (v w : Value) : Value := match v with | .null => w | _ => v
theorem own_givenR {v w : Value} (h : v.isRef = true) (k : w.isRef = true) : (own_given v w).isRef = true := by cases v <;> simp_all [own_given, Value.isRef]
theorem own_OR.given {Z : State} {h : Heap} {v w : Value} (F : own_OR Z h v) (G : own_OR Z h w) : own_OR Z h (own_given v w) := by
  cases v <;> first | exact F | exact G

theorem d3_0 : decode jdk_43_method_3_code 0 = .ok (.iload_n 0, 1) := by decide +kernel
theorem d3_1 : decode jdk_43_method_3_code 1 = .ok (.sipush 255, 3) := by decide +kernel
theorem d3_4 : decode jdk_43_method_3_code 4 = .ok (.if_icmp .gt 7, 3) := by decide +kernel
theorem d3_7 : decode jdk_43_method_3_code 7 = .ok (.iconst 1, 1) := by decide +kernel
theorem d3_8 : decode jdk_43_method_3_code 8 = .ok (.goto 4, 3) := by decide +kernel
theorem d3_11 : decode jdk_43_method_3_code 11 = .ok (.iconst 0, 1) := by decide +kernel
theorem d3_12 : decode jdk_43_method_3_code 12 = .ok (.ireturn, 1) := by decide +kernel
theorem pn_3 : plainName "java/lang/StringLatin1" = true := by first | (simp [plainName, overriddenIn]; done) | decide +kernel
theorem ef_3 (m : MethodId) (x0 : Int32) : entryFrame m #[(.int x0)] 1 = mkF m 0 #[.val (.int x0)] [] := by first | (simp [entryFrame, mkF, argsToLocals, Value.category]; done) | rfl
def own_can (p1 : Int32) : Int32 := (if (255 : Int32) < p1 then (0 : Int32) else (1 : Int32))
def Q3 (Z : State) (p1 : Int32) (h0 : Heap) (n0 : Nat) (v : Option Value) (h : Heap) (L : List Loc) : Prop := v = (some (.int (own_can p1))) ∧ Fr n0 L ∧ h = h0
set_option maxRecDepth 65536 in
set_option maxHeartbeats 40000000 in
theorem rm3 (l : Launch) (Z : State) (a0 : Array Value) (hw : ∀ d ∈ tables_1, d.before a0 Z = true) (ws : List Jvm.Cond) (p1 : Int32) (h0 : Heap) (n0 : Nat) (Z0 : n0 ≤ h0.size) :
    MetFree l (⟨"java/lang/StringLatin1", "canEncode", "(C)Z"⟩ : MethodName) (head1 (Jvm.Cond.code (⟨"java/lang/StringLatin1", "canEncode", "(C)Z"⟩ : MethodName) jdk_43_method_3_code 1 (some .boolean) :: ws) ({ frames := 0, cells := 0, slots := 0, locals := 0 } : Room)) (fun a U => a = #[(.int p1)] ∧ Z.Warmed39 U.vm ∧ U.heap = h0) (fun _ _ _ _ _ => True) (fun _ U o U' => ∃ v L, o = .returned v ∧ Q3 Z p1 h0 n0 v U'.heap L ∧ FrameEnd U o U' L ({ frames := 0, cells := 0, slots := 0, locals := 0 } : Room).cells ({ frames := 0, cells := 0, slots := 0, locals := 0 } : Room).slots) := by
  refine MetFree.of_bodySF (plainFor_of_name pn_3) hisR ?_
  intro p e s m args below meth c s₁ Bd hml0 hP hK
  obtain ⟨rfl, hZ, hh⟩ := hP
  have hx := Bd.exec
  have hby := Bd.bytes
  have hml : c.maxLocals = 1 := hml0
  have hown0 := findClass_of_methodNamed Bd.named
  have hown : s.vm.findClass "java/lang/StringLatin1" = some m.cls := hown0
  have hnm := (name_of_methodNamed Bd.named Bd.method).1
  have X0 : Stand p l e ({ frames := 0, cells := 0, slots := 0, locals := 0 } : Room) s m #[(.int p1)] below meth c s₁ [] 0 0 := Stand.of_body Bd
  have e0 : s₁.heap = h0 := by rw [← hh, Bd.state]; rfl
  have N0 := Fr.nil n0
  obtain ⟨S0, hS0⟩ : ∃ z, z = s₁.setTop (entryFrame m #[(.int p1)] 1) := ⟨_, rfl⟩
  have pre0 : own_Go p e below S0 (s₁.setTop (mkF m 0 #[.val (.int p1)] [])) := fun t k => by rw [hS0]; exact castTop (ef_3 m p1) k
  have fin : ∀ t, Steps p.tables e below S0 t → Steps p.tables e below (s₁.setTop (entryFrame m #[(.int p1)] 1)) t := fun t k => by rw [hS0] at k; exact k
  have pre2 : own_Go p e below S0 (s₁.setTop (mkF m 4 #[.val (.int p1)] [(.int (255 : Int32)), (.int p1)])) := by
    intro t kt
    refine pre0 t ?_
    refine XS.iloadN X0.here hx rfl (hb hby d3_0) rfl ?_
    show Steps p.tables e below (s₁.setTop (mkF m 1 #[.val (.int p1)] [(.int p1)])) _
    refine XS.sipush X0.here hx rfl (hb hby d3_1) ?_
    show Steps p.tables e below (s₁.setTop (mkF m 4 #[.val (.int p1)] [(.int (255 : Int32)), (.int p1)])) _
    exact kt
  by_cases hc1 : (255 : Int32) < p1
  · have pre3 : own_Go p e below S0 (s₁.setTop (mkF m 12 #[.val (.int p1)] [(.int (0 : Int32))])) := by
      intro t kt
      refine pre2 t ?_
      refine XS.icmpYes X0.here hx rfl (pc0 := 4) (pc' := 11) rfl (hb hby d3_4) rfl (tlt hc1).2.2.1 (by decide) (by decide) ?_
      show Steps p.tables e below (s₁.setTop (mkF m 11 #[.val (.int p1)] [])) _
      refine XS.iconst X0.here hx rfl (hb hby d3_11) ?_
      show Steps p.tables e below (s₁.setTop (mkF m 12 #[.val (.int p1)] [(.int (0 : Int32))])) _
      exact kt
    obtain ⟨fs, hr, hrun, hended, hW, hsame⟩ := X0.leave (v := some (.int (0 : Int32))) (fun h => by rw [Bd.returns] at h; cases h)
    refine ⟨_, _, fin _ (pre3 _ ?_), hrun, hended, _, _, rfl, ?_, ⟨_, rfl⟩, hW, hsame.mono (by decide) (by decide)⟩
    · exact retN X0 hx (t := .boolean) Bd.returns (by simp) (hb hby d3_12) hr
    · show Q3 Z p1 h0 n0 _ s₁.heap _
      rw [e0]
      exact ⟨(by show some _ = some _; rw [own_can, if_pos hc1]), N0, rfl⟩
  · have pre4 : own_Go p e below S0 (s₁.setTop (mkF m 12 #[.val (.int p1)] [(.int (1 : Int32))])) := by
      intro t kt
      refine pre2 t ?_
      refine XS.icmpNo X0.here hx rfl (hb hby d3_4) rfl (flt hc1).2.2.1 ?_
      show Steps p.tables e below (s₁.setTop (mkF m 7 #[.val (.int p1)] [])) _
      refine XS.iconst X0.here hx rfl (hb hby d3_7) ?_
      show Steps p.tables e below (s₁.setTop (mkF m 8 #[.val (.int p1)] [(.int (1 : Int32))])) _
      refine XS.goto X0.here hx rfl (pc0 := 8) (pc' := 12) rfl (hb hby d3_8) (by decide) (by decide) ?_
      show Steps p.tables e below (s₁.setTop (mkF m 12 #[.val (.int p1)] [(.int (1 : Int32))])) _
      exact kt
    obtain ⟨fs, hr, hrun, hended, hW, hsame⟩ := X0.leave (v := some (.int (1 : Int32))) (fun h => by rw [Bd.returns] at h; cases h)
    refine ⟨_, _, fin _ (pre4 _ ?_), hrun, hended, _, _, rfl, ?_, ⟨_, rfl⟩, hW, hsame.mono (by decide) (by decide)⟩
    · exact retN X0 hx (t := .boolean) Bd.returns (by simp) (hb hby d3_12) hr
    · show Q3 Z p1 h0 n0 _ s₁.heap _
      rw [e0]
      exact ⟨(by show some _ = some _; rw [own_can, if_neg hc1]), N0, rfl⟩

theorem d4_0 : decode jdk_43_method_46_code 0 = .ok (.iconst 1, 1) := by decide +kernel
theorem d4_1 : decode jdk_43_method_46_code 1 = .ok (.newarray .byte, 2) := by decide +kernel
theorem d4_3 : decode jdk_43_method_46_code 3 = .ok (.dup, 1) := by decide +kernel
theorem d4_4 : decode jdk_43_method_46_code 4 = .ok (.iconst 0, 1) := by decide +kernel
theorem d4_5 : decode jdk_43_method_46_code 5 = .ok (.iload_n 0, 1) := by decide +kernel
theorem d4_6 : decode jdk_43_method_46_code 6 = .ok (.i2b, 1) := by decide +kernel
theorem d4_7 : decode jdk_43_method_46_code 7 = .ok (.bastore, 1) := by decide +kernel
theorem d4_8 : decode jdk_43_method_46_code 8 = .ok (.areturn, 1) := by decide +kernel
theorem pn_4 : plainName "java/lang/StringLatin1" = true := by first | (simp [plainName, overriddenIn]; done) | decide +kernel
theorem ef_4 (m : MethodId) (x0 : Int32) : entryFrame m #[(.int x0)] 1 = mkF m 0 #[.val (.int x0)] [] := by first | (simp [entryFrame, mkF, argsToLocals, Value.category]; done) | rfl
def Q4 (Z : State) (p1 : Int32) (h0 : Heap) (n0 : Nat) (v : Option Value) (h : Heap) (L : List Loc) : Prop := ∃ b : Addr, ∃ kb : ClassId, v = (some (.ref b)) ∧ Fr n0 L ∧ Keep h0 h [] ∧ h0.size ≤ b
set_option maxRecDepth 65536 in
set_option maxHeartbeats 40000000 in
theorem rm4 (l : Launch) (Z : State) (a0 : Array Value) (hw : ∀ d ∈ tables_1, d.before a0 Z = true) (ws : List Jvm.Cond) (p1 : Int32) (h0 : Heap) (n0 : Nat) (Z0 : n0 ≤ h0.size) :
    MetFree l (⟨"java/lang/StringLatin1", "toBytes", "(C)[B"⟩ : MethodName) (head1 (Jvm.Cond.code (⟨"java/lang/StringLatin1", "toBytes", "(C)[B"⟩ : MethodName) jdk_43_method_46_code 1 (some (.array .byte)) :: ws) ({ frames := 0, cells := 1, slots := 1, locals := 0 } : Room)) (fun a U => a = #[(.int p1)] ∧ Z.Warmed39 U.vm ∧ U.heap = h0) (fun _ _ _ _ _ => True) (fun _ U o U' => ∃ v L, o = .returned v ∧ Q4 Z p1 h0 n0 v U'.heap L ∧ FrameEnd U o U' L ({ frames := 0, cells := 1, slots := 1, locals := 0 } : Room).cells ({ frames := 0, cells := 1, slots := 1, locals := 0 } : Room).slots) := by
  refine MetFree.of_bodySF (plainFor_of_name pn_4) hisR ?_
  intro p e s m args below meth c s₁ Bd hml0 hP hK
  obtain ⟨rfl, hZ, hh⟩ := hP
  have hx := Bd.exec
  have hby := Bd.bytes
  have hml : c.maxLocals = 1 := hml0
  have hown0 := findClass_of_methodNamed Bd.named
  have hown : s.vm.findClass "java/lang/StringLatin1" = some m.cls := hown0
  have hnm := (name_of_methodNamed Bd.named Bd.method).1
  have X0 : Stand p l e ({ frames := 0, cells := 1, slots := 1, locals := 0 } : Room) s m #[(.int p1)] below meth c s₁ [] 0 0 := Stand.of_body Bd
  have e0 : s₁.heap = h0 := by rw [← hh, Bd.state]; rfl
  have N0 := Fr.nil n0
  obtain ⟨S0, hS0⟩ : ∃ z, z = s₁.setTop (entryFrame m #[(.int p1)] 1) := ⟨_, rfl⟩
  have pre0 : own_Go p e below S0 (s₁.setTop (mkF m 0 #[.val (.int p1)] [])) := fun t k => by rw [hS0]; exact castTop (ef_4 m p1) k
  have fin : ∀ t, Steps p.tables e below S0 t → Steps p.tables e below (s₁.setTop (entryFrame m #[(.int p1)] 1)) t := fun t k => by rw [hS0] at k; exact k
  have kc0 : Keep h0 h0 [] := Keep.refl _ _
  have pre1 : own_Go p e below S0 (s₁.setTop (mkF m 1 #[.val (.int p1)] [(.int (1 : Int32))])) := by
    intro t kt
    refine pre0 t ?_
    refine XS.iconst X0.here hx rfl (hb hby d4_0) ?_
    show Steps p.tables e below (s₁.setTop (mkF m 1 #[.val (.int p1)] [(.int (1 : Int32))])) _
    exact kt
  obtain ⟨T2, h2, k2, X2, e2, E2, A2, st2⟩ := newP X0 hx hZ (hw _ (own_w 18 rfl)) e0 (g := (mkF m 1 #[.val (.int p1)] [(.int (1 : Int32))])) rfl (hb hby d4_1) rfl (by decide) (cap := 1) (by decide) (by decide) (by decide) (by decide)
  obtain ⟨b2, g2⟩ : ∃ z, z = h0.size := ⟨_, rfl⟩
  rw [← g2] at A2 st2
  have ge3 : n0 ≤ b2 := Nat.le_trans Z0 (Nat.le_of_eq g2.symm)
  have sz4 : h0.size ≤ b2 := Nat.le_trans kc0.1 (Nat.le_of_eq g2.symm)
  have zs5 : n0 ≤ h2.size := Nat.le_trans Z0 E2.1
  have kc6 : Keep h0 h2 [] := kc0.ext E2
  have V2 : Arv Z h2 b2 k2 .byte (1 : Int32) [(.int (0 : Int32))] (.int (0 : Int32)) := (Arv.new A2 (by decide)).pad (pad_rep [] (.int (0 : Int32)) 1)
  have pre7 : own_Go p e below S0 (T2.setTop (mkF m 7 #[.val (.int p1)] [(.int (p1.toInt8.toInt32)), (.int (0 : Int32)), (.ref b2), (.ref b2)])) := by
    intro t kt
    refine pre1 t ?_
    refine st2 _ ?_
    show Steps p.tables e below (T2.setTop (mkF m 3 #[.val (.int p1)] [(.ref b2)])) _
    refine XS.dup X2.here hx rfl (hb hby d4_3) rfl rfl ?_
    show Steps p.tables e below (T2.setTop (mkF m 4 #[.val (.int p1)] [(.ref b2), (.ref b2)])) _
    refine XS.iconst X2.here hx rfl (hb hby d4_4) ?_
    show Steps p.tables e below (T2.setTop (mkF m 5 #[.val (.int p1)] [(.int (0 : Int32)), (.ref b2), (.ref b2)])) _
    refine XS.iloadN X2.here hx rfl (hb hby d4_5) rfl ?_
    show Steps p.tables e below (T2.setTop (mkF m 6 #[.val (.int p1)] [(.int p1), (.int (0 : Int32)), (.ref b2), (.ref b2)])) _
    refine XS.i2b X2.here hx rfl (hb hby d4_6) rfl ?_
    show Steps p.tables e below (T2.setTop (mkF m 7 #[.val (.int p1)] [(.int (p1.toInt8.toInt32)), (.int (0 : Int32)), (.ref b2), (.ref b2)])) _
    exact kt
  obtain ⟨cl8, Ar8, q8, Sz8, Ng8, Hs8, Gt8⟩ := id V2
  have hin8 : ¬ ((0 : Int32) < 0 ∨ cl8.slots.size ≤ ((0 : Int32)).toNatClampNeg) := inb_of Sz8 ⟨by decide, by decide⟩
  obtain ⟨T8, h8, X8, e8, W8, st8⟩ := stB X2 hx hZ e2 Ar8 (j := (0 : Int32)) hin8 (g := (mkF m 7 #[.val (.int p1)] [(.int (p1.toInt8.toInt32)), (.int (0 : Int32)), (.ref b2), (.ref b2)])) rfl rfl (hb hby d4_7)
  have N8 := Fr.snoc X8 N0 ge3
  have zs9 : n0 ≤ h8.size := Nat.le_trans zs5 (Keep.of_wr W8).1
  have kc10 : Keep h0 h8 [] := kc6.wr W8 (Or.inr sz4)
  have V8 : Arv Z h8 b2 k2 .byte (1 : Int32) [(.int (nar .byte (p1.toInt8.toInt32)))] (.int (0 : Int32)) := Arv.set Ar8 q8 Sz8 Ng8 Hs8 Gt8 (fits_nar_byte _) W8 0 rfl (Nat.le_of_ble_eq_true rfl)
  have pre11 : own_Go p e below S0 (T8.setTop (mkF m 8 #[.val (.int p1)] [(.ref b2)])) := by
    intro t kt
    refine pre7 t ?_
    refine st8 _ ?_
    show Steps p.tables e below (T8.setTop (mkF m 8 #[.val (.int p1)] [(.ref b2)])) _
    exact kt
  obtain ⟨fs, hr, hrun, hended, hW, hsame⟩ := X8.leave (v := some (.ref b2)) (fun h => by rw [Bd.returns] at h; cases h)
  refine ⟨_, _, fin _ (pre11 _ ?_), hrun, hended, _, _, rfl, ?_, ⟨_, rfl⟩, hW, hsame.mono (by decide) (by decide)⟩
  · jvm_step X8.here [X8.here.top, hx, (hb hby d4_8), X8.method', Bd.returns, Value.isRef, FieldType.isReference]
    first | (intro acts; rw [hr _ acts rfl rfl rfl]) | rw [hr _ _ rfl rfl rfl]
    exact Steps.refl _
  · show Q4 Z p1 h0 n0 _ T8.heap _
    rw [e8]
    exact ⟨b2, k2, rfl, N8, kc10, sz4⟩

theorem d5_0 : decode jdk_42_method_151_code 0 = .ok (.aload_n 0, 1) := by decide +kernel
theorem d5_1 : decode jdk_42_method_151_code 1 = .ok (.invokespecial 1, 3) := by decide +kernel
theorem d5_4 : decode jdk_42_method_151_code 4 = .ok (.aload_n 0, 1) := by decide +kernel
theorem d5_5 : decode jdk_42_method_151_code 5 = .ok (.aload_n 1, 1) := by decide +kernel
theorem d5_6 : decode jdk_42_method_151_code 6 = .ok (.putfield 9, 3) := by decide +kernel
theorem d5_9 : decode jdk_42_method_151_code 9 = .ok (.aload_n 0, 1) := by decide +kernel
theorem d5_10 : decode jdk_42_method_151_code 10 = .ok (.iload_n 2, 1) := by decide +kernel
theorem d5_11 : decode jdk_42_method_151_code 11 = .ok (.putfield 15, 3) := by decide +kernel
theorem d5_14 : decode jdk_42_method_151_code 14 = .ok (.return_, 1) := by decide +kernel
theorem pn_5 : plainName "java/lang/String" = true := by first | (simp [plainName, overriddenIn]; done) | decide +kernel
theorem ef_5 (m : MethodId) (x0 : Addr) (x1 : Addr) (x2 : Int32) : entryFrame m #[(.ref x0), (.ref x1), (.int x2)] 3 = mkF m 0 #[.val (.ref x0), .val (.ref x1), .val (.int x2)] [] := by first | (simp [entryFrame, mkF, argsToLocals, Value.category]; done) | rfl
def Q5 (Z : State) (a1 : Addr) (a2 : Addr) (p3 : Int32) (h0 : Heap) (n0 : Nat) (v : Option Value) (h : Heap) (L : List Loc) : Prop := v = none ∧ Fr n0 L ∧ Keep h0 h [a1] ∧ Exa Z h a1 "java/lang/String"
set_option maxRecDepth 65536 in
set_option maxHeartbeats 40000000 in
theorem rm5 (l : Launch) (Z : State) (a0 : Array Value) (hw : ∀ d ∈ tables_1, d.before a0 Z = true) (ws : List Jvm.Cond) (a1 : Addr) (a2 : Addr) (p3 : Int32) (h0 : Heap) (n0 : Nat) (Z0 : n0 ≤ h0.size) (xE1 : Exa Z h0 a1 "java/lang/String") (xF1 : Fld Z h0 a1 "java/lang/String" "value" "[B" .null) (xF2 : Fld Z h0 a1 "java/lang/String" "coder" "B" (.int (0 : Int32))) (xg1 : n0 ≤ a1) :
    MetFree l (⟨"java/lang/String", "<init>", "([BB)V"⟩ : MethodName) (head1 (Jvm.Cond.code (⟨"java/lang/String", "<init>", "([BB)V"⟩ : MethodName) jdk_42_method_151_code 3 none :: ws) ({ frames := 1, cells := 0, slots := 0, locals := 12 } : Room)) (fun a U => a = #[(.ref a1), (.ref a2), (.int p3)] ∧ Z.Warmed39 U.vm ∧ U.heap = h0) (fun _ _ _ _ _ => True) (fun _ U o U' => ∃ v L, o = .returned v ∧ Q5 Z a1 a2 p3 h0 n0 v U'.heap L ∧ FrameEnd U o U' L ({ frames := 1, cells := 0, slots := 0, locals := 12 } : Room).cells ({ frames := 1, cells := 0, slots := 0, locals := 12 } : Room).slots) := by
  refine MetFree.of_bodySF (plainFor_of_name pn_5) hisR ?_
  intro p e s m args below meth c s₁ Bd hml0 hP hK
  obtain ⟨rfl, hZ, hh⟩ := hP
  have hx := Bd.exec
  have hby := Bd.bytes
  have hml : c.maxLocals = 3 := hml0
  have hown0 := findClass_of_methodNamed Bd.named
  have hown : s.vm.findClass "java/lang/String" = some m.cls := hown0
  have hnm := (name_of_methodNamed Bd.named Bd.method).1
  have X0 : Stand p l e ({ frames := 1, cells := 0, slots := 0, locals := 12 } : Room) s m #[(.ref a1), (.ref a2), (.int p3)] below meth c s₁ [] 0 0 := Stand.of_body Bd
  have e0 : s₁.heap = h0 := by rw [← hh, Bd.state]; rfl
  have N0 := Fr.nil n0
  obtain ⟨S0, hS0⟩ : ∃ z, z = s₁.setTop (entryFrame m #[(.ref a1), (.ref a2), (.int p3)] 3) := ⟨_, rfl⟩
  have pre0 : own_Go p e below S0 (s₁.setTop (mkF m 0 #[.val (.ref a1), .val (.ref a2), .val (.int p3)] [])) := fun t k => by rw [hS0]; exact castTop (ef_5 m a1 a2 p3) k
  have fin : ∀ t, Steps p.tables e below S0 t → Steps p.tables e below (s₁.setTop (entryFrame m #[(.ref a1), (.ref a2), (.int p3)] 3)) t := fun t k => by rw [hS0] at k; exact k
  have kc0 : Keep h0 h0 [a1] := Keep.refl _ _
  have pre1 : own_Go p e below S0 (s₁.setTop (mkF m 1 #[.val (.ref a1), .val (.ref a2), .val (.int p3)] [(.ref a1)])) := by
    intro t kt
    refine pre0 t ?_
    refine XS.aloadN X0.here hx rfl (hb hby d5_0) rfl rfl ?_
    show Steps p.tables e below (s₁.setTop (mkF m 1 #[.val (.ref a1), .val (.ref a2), .val (.int p3)] [(.ref a1)])) _
    exact kt
  obtain ⟨T2, X2, e2, st2⟩ := initO X0 hx hZ hown (hw _ (own_w 23 rfl)) (hw _ (own_w 24 rfl)) (hw _ (own_w 25 rfl)) e0 (g := (mkF m 1 #[.val (.ref a1), .val (.ref a2), .val (.int p3)] [(.ref a1)])) rfl (by rw [hml]; rfl) rfl (hb hby d5_1) (by decide) (W := 0) (by show 2 * 0 + _ ≤ _; exact Nat.le_of_eq rfl) (by decide)
  have pre3 : own_Go p e below S0 (T2.setTop (mkF m 6 #[.val (.ref a1), .val (.ref a2), .val (.int p3)] [(.ref a2), (.ref a1)])) := by
    intro t kt
    refine pre1 t ?_
    refine st2 _ ?_
    show Steps p.tables e below (T2.setTop (mkF m 4 #[.val (.ref a1), .val (.ref a2), .val (.int p3)] [])) _
    refine XS.aloadN X2.here hx rfl (hb hby d5_4) rfl rfl ?_
    show Steps p.tables e below (T2.setTop (mkF m 5 #[.val (.ref a1), .val (.ref a2), .val (.int p3)] [(.ref a1)])) _
    refine XS.aloadN X2.here hx rfl (hb hby d5_5) rfl rfl ?_
    show Steps p.tables e below (T2.setTop (mkF m 6 #[.val (.ref a1), .val (.ref a2), .val (.int p3)] [(.ref a2), (.ref a1)])) _
    exact kt
  obtain ⟨T4, h4, X4, e4, W4, st4⟩ := putF X2 hx hZ hown (host := "") (Or.inl (hw _ (own_w 26 rfl))) Via.refl e2 xF1 xE1 (Or.inr ⟨(hw _ (own_w 27 rfl)), rfl, hnm⟩) (hw _ (own_w 14 rfl)) (ty := (.array .byte)) (by decide) rfl rfl (g := (mkF m 6 #[.val (.ref a1), .val (.ref a2), .val (.int p3)] [(.ref a2), (.ref a1)])) rfl rfl (hb hby d5_6)
  have N4 := Fr.snoc X4 N0 xg1
  have zs5 : n0 ≤ h4.size := Nat.le_trans Z0 (Keep.of_wr W4).1
  have kc6 : Keep h0 h4 [a1] := kc0.wr W4 (Or.inl (List.mem_of_getElem? (i := 0) rfl))
  have fw4 : Fld Z h4 a1 "java/lang/String" "value" "[B" (.ref a2) := xF1.same W4
  have pre7 : own_Go p e below S0 (T4.setTop (mkF m 11 #[.val (.ref a1), .val (.ref a2), .val (.int p3)] [(.int p3), (.ref a1)])) := by
    intro t kt
    refine pre3 t ?_
    refine st4 _ ?_
    show Steps p.tables e below (T4.setTop (mkF m 9 #[.val (.ref a1), .val (.ref a2), .val (.int p3)] [])) _
    refine XS.aloadN X4.here hx rfl (hb hby d5_9) rfl rfl ?_
    show Steps p.tables e below (T4.setTop (mkF m 10 #[.val (.ref a1), .val (.ref a2), .val (.int p3)] [(.ref a1)])) _
    refine XS.iloadN X4.here hx rfl (hb hby d5_10) rfl ?_
    show Steps p.tables e below (T4.setTop (mkF m 11 #[.val (.ref a1), .val (.ref a2), .val (.int p3)] [(.int p3), (.ref a1)])) _
    exact kt
  have f8 : Fld Z h4 a1 "java/lang/String" "coder" "B" (.int (0 : Int32)) := (xF2.other W4 (Or.inr (slot_ne (Or.inr (hw _ (own_w 29 rfl))) (Or.inr (hw _ (own_w 27 rfl))) (by decide) (t := .byte) (t' := (.array .byte)) (by decide) (by decide))))
  have f9 : Exa Z h4 a1 "java/lang/String" := (xE1.wr W4)
  obtain ⟨T10, h10, X10, e10, W10, st10⟩ := putFN X4 hx hZ hown (hw _ (own_w 28 rfl)) Via.refl e4 f8 f9 (Or.inr ⟨(hw _ (own_w 29 rfl)), rfl, hnm⟩) (hw _ (own_w 14 rfl)) (ty := .byte) (v' := (.int (nar .byte p3))) (by decide) rfl (fits_nar_byte _) (g := (mkF m 11 #[.val (.ref a1), .val (.ref a2), .val (.int p3)] [(.int p3), (.ref a1)])) rfl rfl (hb hby d5_11)
  have N10 := Fr.snoc X10 N4 xg1
  have zs11 : n0 ≤ h10.size := Nat.le_trans zs5 (Keep.of_wr W10).1
  have kc12 : Keep h0 h10 [a1] := kc6.wr W10 (Or.inl (List.mem_of_getElem? (i := 0) rfl))
  have fw10 : Fld Z h10 a1 "java/lang/String" "coder" "B" (.int (nar .byte p3)) := f8.same W10
  have pre13 : own_Go p e below S0 (T10.setTop (mkF m 14 #[.val (.ref a1), .val (.ref a2), .val (.int p3)] [])) := by
    intro t kt
    refine pre7 t ?_
    refine st10 _ ?_
    show Steps p.tables e below (T10.setTop (mkF m 14 #[.val (.ref a1), .val (.ref a2), .val (.int p3)] [])) _
    exact kt
  obtain ⟨fs, hr, hrun, hended, hW, hsame⟩ := X10.leave (v := none) (fun _ => rfl)
  refine ⟨_, _, fin _ (pre13 _ ?_), hrun, hended, _, _, rfl, ?_, ⟨_, rfl⟩, hW, hsame.mono (by decide) (by decide)⟩
  · exact X10.returnOut hx Bd.returns (hb hby d5_14) hr
  have f14 : Exa Z h10 a1 "java/lang/String" := (f9.wr W10)
  · show Q5 Z a1 a2 p3 h0 n0 _ T10.heap _
    rw [e10]
    exact ⟨rfl, N10, kc12, f14⟩

theorem own_can1 (x : Int32) : ¬ own_can ((x &&& (255 : Int32)).toUInt32.toUInt16.toUInt32.toInt32) = 0 := by
  have h := c_mask x 255 8 (by decide) (by decide)
  have k := c_i2c (x &&& 255)
  have n : ¬ (255 : Int32) < (x &&& 255).toUInt32.toUInt16.toUInt32.toInt32 := by
    rw [Int32.lt_iff_toInt_lt, show (255 : Int32).toInt = 255 from rfl]; omega
  unfold own_can
  rw [if_neg n]
  decide

theorem d2_0 : decode jdk_42_method_139_code 0 = .ok (.getstatic 38, 3) := by decide +kernel
theorem d2_3 : decode jdk_42_method_139_code 3 = .ok (.ifCond .eq 23, 3) := by decide +kernel
theorem d2_6 : decode jdk_42_method_139_code 6 = .ok (.iload_n 0, 1) := by decide +kernel
theorem d2_7 : decode jdk_42_method_139_code 7 = .ok (.invokestatic 1015, 3) := by decide +kernel
theorem d2_10 : decode jdk_42_method_139_code 10 = .ok (.ifCond .eq 16, 3) := by decide +kernel
theorem d2_13 : decode jdk_42_method_139_code 13 = .ok (.new 10, 3) := by decide +kernel
theorem d2_16 : decode jdk_42_method_139_code 16 = .ok (.dup, 1) := by decide +kernel
theorem d2_17 : decode jdk_42_method_139_code 17 = .ok (.iload_n 0, 1) := by decide +kernel
theorem d2_18 : decode jdk_42_method_139_code 18 = .ok (.invokestatic 1018, 3) := by decide +kernel
theorem d2_21 : decode jdk_42_method_139_code 21 = .ok (.iconst 0, 1) := by decide +kernel
theorem d2_22 : decode jdk_42_method_139_code 22 = .ok (.invokespecial 209, 3) := by decide +kernel
theorem d2_25 : decode jdk_42_method_139_code 25 = .ok (.areturn, 1) := by decide +kernel
theorem pn_2 : plainName "java/lang/String" = true := by first | (simp [plainName, overriddenIn]; done) | decide +kernel
theorem pd_0 : parseMethodDescriptor "(C)Z" = some ⟨[.char], some .boolean⟩ := by decide +kernel
theorem pd_1 : parseMethodDescriptor "(C)[B" = some ⟨[.char], some (.array .byte)⟩ := by decide +kernel
theorem pd_2 : parseMethodDescriptor "([BB)V" = some ⟨[(.array .byte), .byte], none⟩ := by decide +kernel
theorem ef_2 (m : MethodId) (x0 : Int32) : entryFrame m #[(.int x0)] 1 = mkF m 0 #[.val (.int x0)] [] := by first | (simp [entryFrame, mkF, argsToLocals, Value.category]; done) | rfl
def Q2 (Z : State) (p1 : Int32) (wC : Int32) (h0 : Heap) (n0 : Nat) (v : Option Value) (h : Heap) (L : List Loc) : Prop := ∃ b : Addr, v = (some (.ref b)) ∧ Fr n0 L ∧ Keep h0 h [] ∧ h0.size ≤ b ∧ Exa Z h b "java/lang/String"
set_option maxRecDepth 65536 in
set_option maxHeartbeats 40000000 in
theorem rm2 (l : Launch) (Z : State) (a0 : Array Value) (hw : ∀ d ∈ tables_1, d.before a0 Z = true) (ws : List Jvm.Cond) (p1 : Int32) (wC : Int32) (h0 : Heap) (n0 : Nat) (Z0 : n0 ≤ h0.size) (O0 : Old Z n0 h0) (qC : (own_SC Z wC)) (hcan : (¬ own_can p1 = (0 : Int32))) :
    MetFree l (⟨"java/lang/String", "valueOf", "(C)Ljava/lang/String;"⟩ : MethodName) (head1 (Jvm.Cond.code (⟨"java/lang/String", "valueOf", "(C)Ljava/lang/String;"⟩ : MethodName) jdk_42_method_139_code 1 (some (.object "java/lang/String")) :: ws) ({ frames := 2, cells := 2, slots := 5, locals := 27 } : Room)) (fun a U => a = #[(.int p1)] ∧ Z.Warmed39 U.vm ∧ U.heap = h0) (fun _ _ _ _ _ => True) (fun _ U o U' => ∃ v L, o = .returned v ∧ Q2 Z p1 wC h0 n0 v U'.heap L ∧ FrameEnd U o U' L ({ frames := 2, cells := 2, slots := 5, locals := 27 } : Room).cells ({ frames := 2, cells := 2, slots := 5, locals := 27 } : Room).slots) := by
  refine MetFree.of_bodySF (plainFor_of_name pn_2) hisR ?_
  intro p e s m args below meth c s₁ Bd hml0 hP hK
  obtain ⟨rfl, hZ, hh⟩ := hP
  have hx := Bd.exec
  have hby := Bd.bytes
  have hml : c.maxLocals = 1 := hml0
  have hown0 := findClass_of_methodNamed Bd.named
  have hown : s.vm.findClass "java/lang/String" = some m.cls := hown0
  have hnm := (name_of_methodNamed Bd.named Bd.method).1
  have X0 : Stand p l e ({ frames := 2, cells := 2, slots := 5, locals := 27 } : Room) s m #[(.int p1)] below meth c s₁ [] 0 0 := Stand.of_body Bd
  have e0 : s₁.heap = h0 := by rw [← hh, Bd.state]; rfl
  have N0 := Fr.nil n0
  obtain ⟨S0, hS0⟩ : ∃ z, z = s₁.setTop (entryFrame m #[(.int p1)] 1) := ⟨_, rfl⟩
  have pre0 : own_Go p e below S0 (s₁.setTop (mkF m 0 #[.val (.int p1)] [])) := fun t k => by rw [hS0]; exact castTop (ef_2 m p1) k
  have fin : ∀ t, Steps p.tables e below S0 t → Steps p.tables e below (s₁.setTop (entryFrame m #[(.int p1)] 1)) t := fun t k => by rw [hS0] at k; exact k
  have kc0 : Keep h0 h0 [] := Keep.refl _ _
  obtain ⟨T1, X1, e1, st1⟩ := getS2 X0 hx hZ hown (host := "") (Or.inl (hw _ (own_w 8 rfl))) Via.refl e0 (qC.1.ext O0.2) (g := (mkF m 0 #[.val (.int p1)] [])) rfl (hb hby d2_0)
  have pre2 : own_Go p e below S0 (T1.setTop (mkF m 7 #[.val (.int p1)] [(.int p1)])) := by
    intro t kt
    refine pre0 t ?_
    refine st1 _ ?_
    show Steps p.tables e below (T1.setTop (mkF m 3 #[.val (.int p1)] [(.int wC)])) _
    refine XS.ifNo X1.here hx rfl (hb hby d2_3) rfl ((if0 _ _).trans (feq qC.2).1) ?_
    show Steps p.tables e below (T1.setTop (mkF m 6 #[.val (.int p1)] [])) _
    refine XS.iloadN X1.here hx rfl (hb hby d2_6) rfl ?_
    show Steps p.tables e below (T1.setTop (mkF m 7 #[.val (.int p1)] [(.int p1)])) _
    exact kt
  obtain ⟨_, _, ⟨T3, L3, k3, n3⟩, -, X3, ⟨Lc3, hQ3, l3, y3, z3⟩, st3⟩ := Jvm.LawKit.callS X1 hx (y := (⟨"java/lang/StringLatin1", "canEncode", "(C)Z"⟩ : MethodName)) hown (mvT hZ (hw _ (own_w 9 rfl))) (mvT hZ (hw _ (own_w 10 rfl))) (mvT hZ (hw _ (own_w 11 rfl))) (mvT hZ (hw _ (own_w 12 rfl))) (by decide) (backOf (W := 0) (rm3 l Z a0 hw [] p1 h0 n0 Z0 ) hZ (hw _ (own_w 12 rfl)) (hw _ (own_w 11 rfl)) (by decide) (by decide)) (g := (mkF m 7 #[.val (.int p1)] [(.int p1)])) rfl (by rw [hml]; rfl) (argsL := [(.int p1)]) (rest := []) (lenOf pd_0 rfl) rfl (by show 2 * 0 + _ ≤ _; exact Nat.le_of_eq rfl) (hb hby d2_7) (fun _ _ => ⟨rfl, e1, (by decide : 0 + 0 ≤ _), (by decide : 0 + 0 ≤ _)⟩)
  dsimp only [Pt.U, Pt.locs, Pt.cells, Pt.slots] at X3 l3 y3 z3 st3 hQ3
  subst l3 y3 z3
  obtain ⟨rfl, Nq3, eq3⟩ := hQ3
  have N3 := Fr.app N0 Nq3
  have pre4 : own_Go p e below S0 (T3.setTop (mkF m 13 #[.val (.int p1)] [])) := by
    intro t kt
    refine pre2 t ?_
    refine st3 _ ?_
    show Steps p.tables e below (T3.setTop (mkF m 10 #[.val (.int p1)] [(.int (own_can p1))])) _
    refine XS.ifNo X3.here hx rfl (hb hby d2_10) rfl ((if0 _ _).trans (feq hcan).1) ?_
    show Steps p.tables e below (T3.setTop (mkF m 13 #[.val (.int p1)] [])) _
    exact kt
  obtain ⟨T5, h5, X5, e5, E5, A5, D5, -, st5⟩ := newO X3 hx hZ hown (hw _ (own_w 13 rfl)) (hw _ (own_w 14 rfl)) (hw _ (own_w 6 rfl)) eq3 (g := (mkF m 13 #[.val (.int p1)] [])) rfl (hb hby d2_13) (by decide) (by decide)
  obtain ⟨b5, g5⟩ : ∃ z, z = h0.size := ⟨_, rfl⟩
  rw [← g5] at A5 D5 st5
  have ge6 : n0 ≤ b5 := Nat.le_trans Z0 (Nat.le_of_eq g5.symm)
  have sz7 : h0.size ≤ b5 := Nat.le_trans kc0.1 (Nat.le_of_eq g5.symm)
  have zs8 : n0 ≤ h5.size := Nat.le_trans Z0 E5.1
  have kc9 : Keep h0 h5 [] := kc0.ext E5
  have fd10 : Fld Z h5 b5 "java/lang/String" "value" "[B" .null := D5 (Or.inr (hw _ (own_w 27 rfl))) (ty := (.array .byte)) (by decide)
  have fd11 : Fld Z h5 b5 "java/lang/String" "coder" "B" (.int (0 : Int32)) := D5 (Or.inr (hw _ (own_w 29 rfl))) (ty := .byte) (by decide)
  have pre12 : own_Go p e below S0 (T5.setTop (mkF m 18 #[.val (.int p1)] [(.int p1), (.ref b5), (.ref b5)])) := by
    intro t kt
    refine pre4 t ?_
    refine st5 _ ?_
    show Steps p.tables e below (T5.setTop (mkF m 16 #[.val (.int p1)] [(.ref b5)])) _
    refine XS.dup X5.here hx rfl (hb hby d2_16) rfl rfl ?_
    show Steps p.tables e below (T5.setTop (mkF m 17 #[.val (.int p1)] [(.ref b5), (.ref b5)])) _
    refine XS.iloadN X5.here hx rfl (hb hby d2_17) rfl ?_
    show Steps p.tables e below (T5.setTop (mkF m 18 #[.val (.int p1)] [(.int p1), (.ref b5), (.ref b5)])) _
    exact kt
  obtain ⟨_, _, ⟨T13, L13, k13, n13⟩, -, X13, ⟨Lc13, hQ13, l13, y13, z13⟩, st13⟩ := Jvm.LawKit.callS X5 hx (y := (⟨"java/lang/StringLatin1", "toBytes", "(C)[B"⟩ : MethodName)) hown (mvT hZ (hw _ (own_w 15 rfl))) (mvT hZ (hw _ (own_w 16 rfl))) (mvT hZ (hw _ (own_w 11 rfl))) (mvT hZ (hw _ (own_w 17 rfl))) (by decide) (backOf (W := 2) (rm4 l Z a0 hw [] p1 h5 n0 zs8 ) hZ (hw _ (own_w 17 rfl)) (hw _ (own_w 11 rfl)) (by decide) (by decide)) (g := (mkF m 18 #[.val (.int p1)] [(.int p1), (.ref b5), (.ref b5)])) rfl (by rw [hml]; rfl) (argsL := [(.int p1)]) (rest := [(.ref b5), (.ref b5)]) (lenOf pd_1 rfl) rfl (by show 2 * 0 + _ ≤ _; exact Nat.le_of_eq rfl) (hb hby d2_18) (fun _ _ => ⟨rfl, e5, (by decide : 1 + 1 ≤ _), (by decide : 4 + 1 ≤ _)⟩)
  dsimp only [Pt.U, Pt.locs, Pt.cells, Pt.slots] at X13 l13 y13 z13 st13 hQ13
  subst l13 y13 z13
  obtain ⟨b14, kb15, rfl, Nq13, K13, g16⟩ := hQ13
  have N13 := Fr.app N3 Nq13
  have ne17 : b5 ≠ b14 := Nat.ne_of_lt (Nat.lt_of_lt_of_le A5.lt g16)
  have ge18 : n0 ≤ b14 := Nat.le_trans zs8 g16
  have sz19 : h0.size ≤ b14 := Nat.le_trans kc9.1 g16
  have zs20 : n0 ≤ T13.heap.size := Nat.le_trans zs8 K13.1
  have kc21 : Keep h0 T13.heap [] := kc9.trans K13 all0
  have pre22 : own_Go p e below S0 (T13.setTop (mkF m 22 #[.val (.int p1)] [(.int (0 : Int32)), (.ref b14), (.ref b5), (.ref b5)])) := by
    intro t kt
    refine pre12 t ?_
    refine st13 _ ?_
    show Steps p.tables e below (T13.setTop (mkF m 21 #[.val (.int p1)] [(.ref b14), (.ref b5), (.ref b5)])) _
    refine XS.iconst X13.here hx rfl (hb hby d2_21) ?_
    show Steps p.tables e below (T13.setTop (mkF m 22 #[.val (.int p1)] [(.int (0 : Int32)), (.ref b14), (.ref b5), (.ref b5)])) _
    exact kt
  have f23 : Exa Z T13.heap b5 "java/lang/String" := (A5.keep K13)
  have f24 : Fld Z T13.heap b5 "java/lang/String" "value" "[B" .null := (fd10.keep K13 nin0)
  have f25 : Fld Z T13.heap b5 "java/lang/String" "coder" "B" (.int (0 : Int32)) := (fd11.keep K13 nin0)
  obtain ⟨_, _, ⟨T26, L26, k26, n26⟩, -, X26, ⟨Lc26, hQ26, l26, y26, z26⟩, st26⟩ := X13.specialBack hx (y := (⟨"java/lang/String", "<init>", "([BB)V"⟩ : MethodName)) rfl hown (mvT hZ (hw _ (own_w 19 rfl))) (mvT hZ (hw _ (own_w 20 rfl))) (mvT hZ (hw _ (own_w 22 rfl))) (by decide) (backOf (W := 1) (rm5 l Z a0 hw [] b5 b14 (0 : Int32) T13.heap n0 zs20 f23 f24 f25 ge6) hZ (hw _ (own_w 22 rfl)) (hw _ (own_w 6 rfl)) (by decide) (by decide)) (g := (mkF m 22 #[.val (.int p1)] [(.int (0 : Int32)), (.ref b14), (.ref b5), (.ref b5)])) rfl (by rw [hml]; rfl) (Steps.refl _) (a := b5) (argsL := [(.ref b14), (.int (0 : Int32))]) (rest := [(.ref b5)]) (lenOf pd_2 rfl) rfl (by show 2 * 0 + _ ≤ _; exact Nat.le_of_eq rfl) (hb hby d2_22) (fun _ _ => ⟨rfl, rfl, (by decide : 2 + 0 ≤ _), (by decide : 5 + 0 ≤ _)⟩)
  dsimp only [Pt.U, Pt.locs, Pt.cells, Pt.slots] at X26 l26 y26 z26 st26 hQ26
  subst l26 y26 z26
  obtain ⟨rfl, Nq26, K26, g27⟩ := hQ26
  have N26 := Fr.app N13 Nq26
  have zs28 : n0 ≤ T26.heap.size := Nat.le_trans zs20 K26.1
  have kc29 : Keep h0 T26.heap [] := kc21.trans K26 (allS (Or.inr sz7) all0)
  have pre30 : own_Go p e below S0 (T26.setTop (mkF m 25 #[.val (.int p1)] [(.ref b5)])) := by
    intro t kt
    refine pre22 t ?_
    refine st26.trans ?_
    show Steps p.tables e below (T26.setTop (mkF m 25 #[.val (.int p1)] [(.ref b5)])) _
    exact kt
  obtain ⟨fs, hr, hrun, hended, hW, hsame⟩ := X26.leave (v := some (.ref b5)) (fun h => by rw [Bd.returns] at h; cases h)
  refine ⟨_, _, fin _ (pre30 _ ?_), hrun, hended, _, _, rfl, ?_, ⟨_, rfl⟩, hW, hsame.mono (by decide) (by decide)⟩
  · jvm_step X26.here [X26.here.top, hx, (hb hby d2_25), X26.method', Bd.returns, Value.isRef, FieldType.isReference]
    first | (intro acts; rw [hr _ acts rfl rfl rfl]) | rw [hr _ _ rfl rfl rfl]
    exact Steps.refl _
  · show Q2 Z p1 wC h0 n0 _ T26.heap _
    exact ⟨b5, rfl, N26, kc29, sz7, g27⟩

theorem d1_0 : decode method_3_code 0 = .ok (.iload_n 0, 1) := by decide +kernel
theorem d1_1 : decode method_3_code 1 = .ok (.iload_n 1, 1) := by decide +kernel
theorem d1_2 : decode method_3_code 2 = .ok (.iushr, 1) := by decide +kernel
theorem d1_3 : decode method_3_code 3 = .ok (.sipush 255, 3) := by decide +kernel
theorem d1_6 : decode method_3_code 6 = .ok (.iand, 1) := by decide +kernel
theorem d1_7 : decode method_3_code 7 = .ok (.i2c, 1) := by decide +kernel
theorem d1_8 : decode method_3_code 8 = .ok (.invokestatic 58, 3) := by decide +kernel
theorem d1_11 : decode method_3_code 11 = .ok (.areturn, 1) := by decide +kernel
theorem pn_1 : plainName "com/example/refertario/refertario/store/EpisodeAdmittedAsPinLaw" = true := by first | (simp [plainName, overriddenIn]; done) | decide +kernel
theorem pd_3 : parseMethodDescriptor "(C)Ljava/lang/String;" = some ⟨[.char], some (.object "java/lang/String")⟩ := by decide +kernel
theorem ef_1 (m : MethodId) (x0 : Int32) (x1 : Int32) : entryFrame m #[(.int x0), (.int x1)] 2 = mkF m 0 #[.val (.int x0), .val (.int x1)] [] := by first | (simp [entryFrame, mkF, argsToLocals, Value.category]; done) | rfl
def Q1 (Z : State) (p1 : Int32) (p2 : Int32) (wC : Int32) (h0 : Heap) (n0 : Nat) (v : Option Value) (h : Heap) (L : List Loc) : Prop := ∃ b : Addr, v = (some (.ref b)) ∧ Fr n0 L ∧ Keep h0 h [] ∧ h0.size ≤ b ∧ Exa Z h b "java/lang/String"
set_option maxRecDepth 65536 in
set_option maxHeartbeats 40000000 in
theorem rm1 (l : Launch) (Z : State) (a0 : Array Value) (hw : ∀ d ∈ tables_1, d.before a0 Z = true) (ws : List Jvm.Cond) (p1 : Int32) (p2 : Int32) (wC : Int32) (h0 : Heap) (n0 : Nat) (Z0 : n0 ≤ h0.size) (O0 : Old Z n0 h0) (qC : (own_SC Z wC)) :
    MetFree l (⟨"com/example/refertario/refertario/store/EpisodeAdmittedAsPinLaw", "ch", "(II)Ljava/lang/String;"⟩ : MethodName) (head1 (Jvm.Cond.code (⟨"com/example/refertario/refertario/store/EpisodeAdmittedAsPinLaw", "ch", "(II)Ljava/lang/String;"⟩ : MethodName) method_3_code 2 (some (.object "java/lang/String")) :: ws) ({ frames := 3, cells := 2, slots := 5, locals := 39 } : Room)) (fun a U => a = #[(.int p1), (.int p2)] ∧ Z.Warmed39 U.vm ∧ U.heap = h0) (fun _ _ _ _ _ => True) (fun _ U o U' => ∃ v L, o = .returned v ∧ Q1 Z p1 p2 wC h0 n0 v U'.heap L ∧ FrameEnd U o U' L ({ frames := 3, cells := 2, slots := 5, locals := 39 } : Room).cells ({ frames := 3, cells := 2, slots := 5, locals := 39 } : Room).slots) := by
  refine MetFree.of_bodySF (plainFor_of_name pn_1) hisR ?_
  intro p e s m args below meth c s₁ Bd hml0 hP hK
  obtain ⟨rfl, hZ, hh⟩ := hP
  have hx := Bd.exec
  have hby := Bd.bytes
  have hml : c.maxLocals = 2 := hml0
  have hown0 := findClass_of_methodNamed Bd.named
  have hown : s.vm.findClass "com/example/refertario/refertario/store/EpisodeAdmittedAsPinLaw" = some m.cls := hown0
  have hnm := (name_of_methodNamed Bd.named Bd.method).1
  have X0 : Stand p l e ({ frames := 3, cells := 2, slots := 5, locals := 39 } : Room) s m #[(.int p1), (.int p2)] below meth c s₁ [] 0 0 := Stand.of_body Bd
  have e0 : s₁.heap = h0 := by rw [← hh, Bd.state]; rfl
  have N0 := Fr.nil n0
  obtain ⟨S0, hS0⟩ : ∃ z, z = s₁.setTop (entryFrame m #[(.int p1), (.int p2)] 2) := ⟨_, rfl⟩
  have pre0 : own_Go p e below S0 (s₁.setTop (mkF m 0 #[.val (.int p1), .val (.int p2)] [])) := fun t k => by rw [hS0]; exact castTop (ef_1 m p1 p2) k
  have fin : ∀ t, Steps p.tables e below S0 t → Steps p.tables e below (s₁.setTop (entryFrame m #[(.int p1), (.int p2)] 2)) t := fun t k => by rw [hS0] at k; exact k
  have kc0 : Keep h0 h0 [] := Keep.refl _ _
  have pre1 : own_Go p e below S0 (s₁.setTop (mkF m 8 #[.val (.int p1), .val (.int p2)] [(.int ((((p1.toUInt32 >>> (p2 &&& 31).toUInt32).toInt32) &&& (255 : Int32)).toUInt32.toUInt16.toUInt32.toInt32))])) := by
    intro t kt
    refine pre0 t ?_
    refine XS.iloadN X0.here hx rfl (hb hby d1_0) rfl ?_
    show Steps p.tables e below (s₁.setTop (mkF m 1 #[.val (.int p1), .val (.int p2)] [(.int p1)])) _
    refine XS.iloadN X0.here hx rfl (hb hby d1_1) rfl ?_
    show Steps p.tables e below (s₁.setTop (mkF m 2 #[.val (.int p1), .val (.int p2)] [(.int p2), (.int p1)])) _
    refine XS.iushr X0.here hx rfl (hb hby d1_2) rfl ?_
    show Steps p.tables e below (s₁.setTop (mkF m 3 #[.val (.int p1), .val (.int p2)] [(.int ((p1.toUInt32 >>> (p2 &&& 31).toUInt32).toInt32))])) _
    refine XS.sipush X0.here hx rfl (hb hby d1_3) ?_
    show Steps p.tables e below (s₁.setTop (mkF m 6 #[.val (.int p1), .val (.int p2)] [(.int (255 : Int32)), (.int ((p1.toUInt32 >>> (p2 &&& 31).toUInt32).toInt32))])) _
    refine XS.iand X0.here hx rfl (hb hby d1_6) rfl ?_
    show Steps p.tables e below (s₁.setTop (mkF m 7 #[.val (.int p1), .val (.int p2)] [(.int (((p1.toUInt32 >>> (p2 &&& 31).toUInt32).toInt32) &&& (255 : Int32)))])) _
    refine XS.i2c X0.here hx rfl (hb hby d1_7) rfl ?_
    show Steps p.tables e below (s₁.setTop (mkF m 8 #[.val (.int p1), .val (.int p2)] [(.int ((((p1.toUInt32 >>> (p2 &&& 31).toUInt32).toInt32) &&& (255 : Int32)).toUInt32.toUInt16.toUInt32.toInt32))])) _
    exact kt
  obtain ⟨_, _, ⟨T2, L2, k2, n2⟩, -, X2, ⟨Lc2, hQ2, l2, y2, z2⟩, st2⟩ := Jvm.LawKit.callS X0 hx (y := (⟨"java/lang/String", "valueOf", "(C)Ljava/lang/String;"⟩ : MethodName)) hown (mvT hZ (hw _ (own_w 4 rfl))) (mvT hZ (hw _ (own_w 5 rfl))) (mvT hZ (hw _ (own_w 6 rfl))) (mvT hZ (hw _ (own_w 7 rfl))) (by decide) (backOf (W := 0) (rm2 l Z a0 hw [] ((((p1.toUInt32 >>> (p2 &&& 31).toUInt32).toInt32) &&& (255 : Int32)).toUInt32.toUInt16.toUInt32.toInt32) wC h0 n0 Z0 O0 qC (own_can1 _)) hZ (hw _ (own_w 7 rfl)) (hw _ (own_w 6 rfl)) (by decide) (by decide)) (g := (mkF m 8 #[.val (.int p1), .val (.int p2)] [(.int ((((p1.toUInt32 >>> (p2 &&& 31).toUInt32).toInt32) &&& (255 : Int32)).toUInt32.toUInt16.toUInt32.toInt32))])) rfl (by rw [hml]; rfl) (argsL := [(.int ((((p1.toUInt32 >>> (p2 &&& 31).toUInt32).toInt32) &&& (255 : Int32)).toUInt32.toUInt16.toUInt32.toInt32))]) (rest := []) (lenOf pd_3 rfl) rfl (by show 2 * 0 + _ ≤ _; exact Nat.le_of_eq rfl) (hb hby d1_8) (fun _ _ => ⟨rfl, e0, (by decide : 0 + 2 ≤ _), (by decide : 0 + 5 ≤ _)⟩)
  dsimp only [Pt.U, Pt.locs, Pt.cells, Pt.slots] at X2 l2 y2 z2 st2 hQ2
  subst l2 y2 z2
  obtain ⟨b3, rfl, Nq2, K2, g4, g5⟩ := hQ2
  have N2 := Fr.app N0 Nq2
  have ge6 : n0 ≤ b3 := Nat.le_trans Z0 g4
  have sz7 : h0.size ≤ b3 := Nat.le_trans kc0.1 g4
  have zs8 : n0 ≤ T2.heap.size := Nat.le_trans Z0 K2.1
  have kc9 : Keep h0 T2.heap [] := kc0.trans K2 all0
  have pre10 : own_Go p e below S0 (T2.setTop (mkF m 11 #[.val (.int p1), .val (.int p2)] [(.ref b3)])) := by
    intro t kt
    refine pre1 t ?_
    refine st2 _ ?_
    show Steps p.tables e below (T2.setTop (mkF m 11 #[.val (.int p1), .val (.int p2)] [(.ref b3)])) _
    exact kt
  obtain ⟨fs, hr, hrun, hended, hW, hsame⟩ := X2.leave (v := some (.ref b3)) (fun h => by rw [Bd.returns] at h; cases h)
  refine ⟨_, _, fin _ (pre10 _ ?_), hrun, hended, _, _, rfl, ?_, ⟨_, rfl⟩, hW, hsame.mono (by decide) (by decide)⟩
  · jvm_step X2.here [X2.here.top, hx, (hb hby d1_11), X2.method', Bd.returns, Value.isRef, FieldType.isReference]
    first | (intro acts; rw [hr _ acts rfl rfl rfl]) | rw [hr _ _ rfl rfl rfl]
    exact Steps.refl _
  · show Q1 Z p1 p2 wC h0 n0 _ T2.heap _
    exact ⟨b3, rfl, N2, kc9, sz7, g5⟩

theorem d7_0 : decode method_4_code 0 = .ok (.iload_n 0, 1) := by decide +kernel
theorem d7_1 : decode method_4_code 1 = .ok (.sipush 255, 3) := by decide +kernel
theorem d7_4 : decode method_4_code 4 = .ok (.iand, 1) := by decide +kernel
theorem d7_5 : decode method_4_code 5 = .ok (.iconst 3, 1) := by decide +kernel
theorem d7_6 : decode method_4_code 6 = .ok (.irem, 1) := by decide +kernel
theorem d7_7 : decode method_4_code 7 = .ok (.istore_n 1, 1) := by decide +kernel
theorem d7_8 : decode method_4_code 8 = .ok (.iload_n 1, 1) := by decide +kernel
theorem d7_9 : decode method_4_code 9 = .ok (.ifCond .ne 7, 3) := by decide +kernel
theorem d7_12 : decode method_4_code 12 = .ok (.getstatic 64, 3) := by decide +kernel
theorem d7_15 : decode method_4_code 15 = .ok (.areturn, 1) := by decide +kernel
theorem d7_16 : decode method_4_code 16 = .ok (.iload_n 1, 1) := by decide +kernel
theorem d7_17 : decode method_4_code 17 = .ok (.iconst 1, 1) := by decide +kernel
theorem d7_18 : decode method_4_code 18 = .ok (.if_icmp .ne 7, 3) := by decide +kernel
theorem d7_21 : decode method_4_code 21 = .ok (.getstatic 70, 3) := by decide +kernel
theorem d7_24 : decode method_4_code 24 = .ok (.areturn, 1) := by decide +kernel
theorem d7_25 : decode method_4_code 25 = .ok (.getstatic 73, 3) := by decide +kernel
theorem d7_28 : decode method_4_code 28 = .ok (.areturn, 1) := by decide +kernel
theorem pn_7 : plainName "com/example/refertario/refertario/store/EpisodeAdmittedAsPinLaw" = true := by first | (simp [plainName, overriddenIn]; done) | decide +kernel
theorem ef_7 (m : MethodId) (x0 : Int32) : entryFrame m #[(.int x0)] 2 = mkF m 0 #[.val (.int x0), .unset] [] := by first | (simp [entryFrame, mkF, argsToLocals, Value.category]; done) | rfl
def own_st (p1 : Int32) (wOPEN : Addr) (wCLOSED : Addr) (wCANCELLED : Addr) : Addr := (if ((p1 &&& (255 : Int32)) % (3 : Int32)) = (0 : Int32) then wOPEN else (if ((p1 &&& (255 : Int32)) % (3 : Int32)) = (1 : Int32) then wCLOSED else wCANCELLED))
def Q7 (Z : State) (p1 : Int32) (wOPEN : Addr) (wCLOSED : Addr) (wCANCELLED : Addr) (h0 : Heap) (n0 : Nat) (v : Option Value) (h : Heap) (L : List Loc) : Prop := v = (some (.ref (own_st p1 wOPEN wCLOSED wCANCELLED))) ∧ Fr n0 L ∧ h = h0
set_option maxRecDepth 65536 in
set_option maxHeartbeats 40000000 in
theorem rm7 (l : Launch) (Z : State) (a0 : Array Value) (hw : ∀ d ∈ tables_1, d.before a0 Z = true) (ws : List Jvm.Cond) (p1 : Int32) (wOPEN : Addr) (wCLOSED : Addr) (wCANCELLED : Addr) (h0 : Heap) (n0 : Nat) (Z0 : n0 ≤ h0.size) (O0 : Old Z n0 h0) (SOPEN : Sta Z Z.heap "com/example/refertario/refertario/store/Episode$Status" "OPEN" "Lcom/example/refertario/refertario/store/Episode$Status;" (.ref wOPEN)) (SCLOSED : Sta Z Z.heap "com/example/refertario/refertario/store/Episode$Status" "CLOSED" "Lcom/example/refertario/refertario/store/Episode$Status;" (.ref wCLOSED)) (SCANCELLED : Sta Z Z.heap "com/example/refertario/refertario/store/Episode$Status" "CANCELLED" "Lcom/example/refertario/refertario/store/Episode$Status;" (.ref wCANCELLED)) :
    MetFree l (⟨"com/example/refertario/refertario/store/EpisodeAdmittedAsPinLaw", "status", "(I)Lcom/example/refertario/refertario/store/Episode$Status;"⟩ : MethodName) (head1 (Jvm.Cond.code (⟨"com/example/refertario/refertario/store/EpisodeAdmittedAsPinLaw", "status", "(I)Lcom/example/refertario/refertario/store/Episode$Status;"⟩ : MethodName) method_4_code 2 (some (.object "com/example/refertario/refertario/store/Episode$Status")) :: ws) ({ frames := 0, cells := 0, slots := 0, locals := 0 } : Room)) (fun a U => a = #[(.int p1)] ∧ Z.Warmed39 U.vm ∧ U.heap = h0) (fun _ _ _ _ _ => True) (fun _ U o U' => ∃ v L, o = .returned v ∧ Q7 Z p1 wOPEN wCLOSED wCANCELLED h0 n0 v U'.heap L ∧ FrameEnd U o U' L ({ frames := 0, cells := 0, slots := 0, locals := 0 } : Room).cells ({ frames := 0, cells := 0, slots := 0, locals := 0 } : Room).slots) := by
  refine MetFree.of_bodySF (plainFor_of_name pn_7) hisR ?_
  intro p e s m args below meth c s₁ Bd hml0 hP hK
  obtain ⟨rfl, hZ, hh⟩ := hP
  have hx := Bd.exec
  have hby := Bd.bytes
  have hml : c.maxLocals = 2 := hml0
  have hown0 := findClass_of_methodNamed Bd.named
  have hown : s.vm.findClass "com/example/refertario/refertario/store/EpisodeAdmittedAsPinLaw" = some m.cls := hown0
  have hnm := (name_of_methodNamed Bd.named Bd.method).1
  have X0 : Stand p l e ({ frames := 0, cells := 0, slots := 0, locals := 0 } : Room) s m #[(.int p1)] below meth c s₁ [] 0 0 := Stand.of_body Bd
  have e0 : s₁.heap = h0 := by rw [← hh, Bd.state]; rfl
  have N0 := Fr.nil n0
  obtain ⟨S0, hS0⟩ : ∃ z, z = s₁.setTop (entryFrame m #[(.int p1)] 2) := ⟨_, rfl⟩
  have pre0 : own_Go p e below S0 (s₁.setTop (mkF m 0 #[.val (.int p1), .unset] [])) := fun t k => by rw [hS0]; exact castTop (ef_7 m p1) k
  have fin : ∀ t, Steps p.tables e below S0 t → Steps p.tables e below (s₁.setTop (entryFrame m #[(.int p1)] 2)) t := fun t k => by rw [hS0] at k; exact k
  have pre2 : own_Go p e below S0 (s₁.setTop (mkF m 9 #[.val (.int p1), .val (.int ((p1 &&& (255 : Int32)) % (3 : Int32)))] [(.int ((p1 &&& (255 : Int32)) % (3 : Int32)))])) := by
    intro t kt
    refine pre0 t ?_
    refine XS.iloadN X0.here hx rfl (hb hby d7_0) rfl ?_
    show Steps p.tables e below (s₁.setTop (mkF m 1 #[.val (.int p1), .unset] [(.int p1)])) _
    refine XS.sipush X0.here hx rfl (hb hby d7_1) ?_
    show Steps p.tables e below (s₁.setTop (mkF m 4 #[.val (.int p1), .unset] [(.int (255 : Int32)), (.int p1)])) _
    refine XS.iand X0.here hx rfl (hb hby d7_4) rfl ?_
    show Steps p.tables e below (s₁.setTop (mkF m 5 #[.val (.int p1), .unset] [(.int (p1 &&& (255 : Int32)))])) _
    refine XS.iconst X0.here hx rfl (hb hby d7_5) ?_
    show Steps p.tables e below (s₁.setTop (mkF m 6 #[.val (.int p1), .unset] [(.int (3 : Int32)), (.int (p1 &&& (255 : Int32)))])) _
    refine iremM X0 hx rfl (hb hby d7_6) rfl (by decide) ?_
    show Steps p.tables e below (s₁.setTop (mkF m 7 #[.val (.int p1), .unset] [(.int ((p1 &&& (255 : Int32)) % (3 : Int32)))])) _
    refine XS.istoreN X0.here hx rfl (hb hby d7_7) rfl (l' := #[.val (.int p1), .val (.int ((p1 &&& (255 : Int32)) % (3 : Int32)))]) rfl ?_
    show Steps p.tables e below (s₁.setTop (mkF m 8 #[.val (.int p1), .val (.int ((p1 &&& (255 : Int32)) % (3 : Int32)))] [])) _
    refine XS.iloadN X0.here hx rfl (hb hby d7_8) rfl ?_
    show Steps p.tables e below (s₁.setTop (mkF m 9 #[.val (.int p1), .val (.int ((p1 &&& (255 : Int32)) % (3 : Int32)))] [(.int ((p1 &&& (255 : Int32)) % (3 : Int32)))])) _
    exact kt
  by_cases hc1 : ((p1 &&& (255 : Int32)) % (3 : Int32)) = (0 : Int32)
  · have pre3 : own_Go p e below S0 (s₁.setTop (mkF m 12 #[.val (.int p1), .val (.int ((p1 &&& (255 : Int32)) % (3 : Int32)))] [])) := by
      intro t kt
      refine pre2 t ?_
      refine XS.ifNo X0.here hx rfl (hb hby d7_9) rfl ((if0 _ _).trans (teq hc1).2) ?_
      show Steps p.tables e below (s₁.setTop (mkF m 12 #[.val (.int p1), .val (.int ((p1 &&& (255 : Int32)) % (3 : Int32)))] [])) _
      exact kt
    obtain ⟨T4, X4, e4, st4⟩ := getS2 X0 hx hZ hown (host := "") (Or.inl (hw _ (own_w 33 rfl))) Via.refl e0 (SOPEN.ext O0.2) (g := (mkF m 12 #[.val (.int p1), .val (.int ((p1 &&& (255 : Int32)) % (3 : Int32)))] [])) rfl (hb hby d7_12)
    have pre5 : own_Go p e below S0 (T4.setTop (mkF m 15 #[.val (.int p1), .val (.int ((p1 &&& (255 : Int32)) % (3 : Int32)))] [(.ref wOPEN)])) := by
      intro t kt
      refine pre3 t ?_
      refine st4 _ ?_
      show Steps p.tables e below (T4.setTop (mkF m 15 #[.val (.int p1), .val (.int ((p1 &&& (255 : Int32)) % (3 : Int32)))] [(.ref wOPEN)])) _
      exact kt
    obtain ⟨fs, hr, hrun, hended, hW, hsame⟩ := X4.leave (v := some (.ref wOPEN)) (fun h => by rw [Bd.returns] at h; cases h)
    refine ⟨_, _, fin _ (pre5 _ ?_), hrun, hended, _, _, rfl, ?_, ⟨_, rfl⟩, hW, hsame.mono (by decide) (by decide)⟩
    · jvm_step X4.here [X4.here.top, hx, (hb hby d7_15), X4.method', Bd.returns, Value.isRef, FieldType.isReference]
      first | (intro acts; rw [hr _ acts rfl rfl rfl]) | rw [hr _ _ rfl rfl rfl]
      exact Steps.refl _
    · show Q7 Z p1 wOPEN wCLOSED wCANCELLED h0 n0 _ T4.heap _
      rw [e4]
      exact ⟨(by show some _ = some _; rw [own_st, if_pos hc1]), N0, rfl⟩
  · have pre7 : own_Go p e below S0 (s₁.setTop (mkF m 18 #[.val (.int p1), .val (.int ((p1 &&& (255 : Int32)) % (3 : Int32)))] [(.int (1 : Int32)), (.int ((p1 &&& (255 : Int32)) % (3 : Int32)))])) := by
      intro t kt
      refine pre2 t ?_
      refine XS.ifYes X0.here hx rfl (pc0 := 9) (pc' := 16) rfl (hb hby d7_9) rfl ((if0 _ _).trans (feq hc1).2) (by decide) (by decide) ?_
      show Steps p.tables e below (s₁.setTop (mkF m 16 #[.val (.int p1), .val (.int ((p1 &&& (255 : Int32)) % (3 : Int32)))] [])) _
      refine XS.iloadN X0.here hx rfl (hb hby d7_16) rfl ?_
      show Steps p.tables e below (s₁.setTop (mkF m 17 #[.val (.int p1), .val (.int ((p1 &&& (255 : Int32)) % (3 : Int32)))] [(.int ((p1 &&& (255 : Int32)) % (3 : Int32)))])) _
      refine XS.iconst X0.here hx rfl (hb hby d7_17) ?_
      show Steps p.tables e below (s₁.setTop (mkF m 18 #[.val (.int p1), .val (.int ((p1 &&& (255 : Int32)) % (3 : Int32)))] [(.int (1 : Int32)), (.int ((p1 &&& (255 : Int32)) % (3 : Int32)))])) _
      exact kt
    by_cases hc6 : ((p1 &&& (255 : Int32)) % (3 : Int32)) = (1 : Int32)
    · have pre8 : own_Go p e below S0 (s₁.setTop (mkF m 21 #[.val (.int p1), .val (.int ((p1 &&& (255 : Int32)) % (3 : Int32)))] [])) := by
        intro t kt
        refine pre7 t ?_
        refine XS.icmpNo X0.here hx rfl (hb hby d7_18) rfl (teq hc6).2 ?_
        show Steps p.tables e below (s₁.setTop (mkF m 21 #[.val (.int p1), .val (.int ((p1 &&& (255 : Int32)) % (3 : Int32)))] [])) _
        exact kt
      obtain ⟨T9, X9, e9, st9⟩ := getS2 X0 hx hZ hown (host := "") (Or.inl (hw _ (own_w 135 rfl))) Via.refl e0 (SCLOSED.ext O0.2) (g := (mkF m 21 #[.val (.int p1), .val (.int ((p1 &&& (255 : Int32)) % (3 : Int32)))] [])) rfl (hb hby d7_21)
      have pre10 : own_Go p e below S0 (T9.setTop (mkF m 24 #[.val (.int p1), .val (.int ((p1 &&& (255 : Int32)) % (3 : Int32)))] [(.ref wCLOSED)])) := by
        intro t kt
        refine pre8 t ?_
        refine st9 _ ?_
        show Steps p.tables e below (T9.setTop (mkF m 24 #[.val (.int p1), .val (.int ((p1 &&& (255 : Int32)) % (3 : Int32)))] [(.ref wCLOSED)])) _
        exact kt
      obtain ⟨fs, hr, hrun, hended, hW, hsame⟩ := X9.leave (v := some (.ref wCLOSED)) (fun h => by rw [Bd.returns] at h; cases h)
      refine ⟨_, _, fin _ (pre10 _ ?_), hrun, hended, _, _, rfl, ?_, ⟨_, rfl⟩, hW, hsame.mono (by decide) (by decide)⟩
      · jvm_step X9.here [X9.here.top, hx, (hb hby d7_24), X9.method', Bd.returns, Value.isRef, FieldType.isReference]
        first | (intro acts; rw [hr _ acts rfl rfl rfl]) | rw [hr _ _ rfl rfl rfl]
        exact Steps.refl _
      · show Q7 Z p1 wOPEN wCLOSED wCANCELLED h0 n0 _ T9.heap _
        rw [e9]
        exact ⟨(by show some _ = some _; rw [own_st, if_neg hc1, if_pos hc6]), N0, rfl⟩
    · have pre11 : own_Go p e below S0 (s₁.setTop (mkF m 25 #[.val (.int p1), .val (.int ((p1 &&& (255 : Int32)) % (3 : Int32)))] [])) := by
        intro t kt
        refine pre7 t ?_
        refine XS.icmpYes X0.here hx rfl (pc0 := 18) (pc' := 25) rfl (hb hby d7_18) rfl (feq hc6).2 (by decide) (by decide) ?_
        show Steps p.tables e below (s₁.setTop (mkF m 25 #[.val (.int p1), .val (.int ((p1 &&& (255 : Int32)) % (3 : Int32)))] [])) _
        exact kt
      obtain ⟨T12, X12, e12, st12⟩ := getS2 X0 hx hZ hown (host := "") (Or.inl (hw _ (own_w 133 rfl))) Via.refl e0 (SCANCELLED.ext O0.2) (g := (mkF m 25 #[.val (.int p1), .val (.int ((p1 &&& (255 : Int32)) % (3 : Int32)))] [])) rfl (hb hby d7_25)
      have pre13 : own_Go p e below S0 (T12.setTop (mkF m 28 #[.val (.int p1), .val (.int ((p1 &&& (255 : Int32)) % (3 : Int32)))] [(.ref wCANCELLED)])) := by
        intro t kt
        refine pre11 t ?_
        refine st12 _ ?_
        show Steps p.tables e below (T12.setTop (mkF m 28 #[.val (.int p1), .val (.int ((p1 &&& (255 : Int32)) % (3 : Int32)))] [(.ref wCANCELLED)])) _
        exact kt
      obtain ⟨fs, hr, hrun, hended, hW, hsame⟩ := X12.leave (v := some (.ref wCANCELLED)) (fun h => by rw [Bd.returns] at h; cases h)
      refine ⟨_, _, fin _ (pre13 _ ?_), hrun, hended, _, _, rfl, ?_, ⟨_, rfl⟩, hW, hsame.mono (by decide) (by decide)⟩
      · jvm_step X12.here [X12.here.top, hx, (hb hby d7_28), X12.method', Bd.returns, Value.isRef, FieldType.isReference]
        first | (intro acts; rw [hr _ acts rfl rfl rfl]) | rw [hr _ _ rfl rfl rfl]
        exact Steps.refl _
      · show Q7 Z p1 wOPEN wCLOSED wCANCELLED h0 n0 _ T12.heap _
        rw [e12]
        exact ⟨(by show some _ = some _; rw [own_st, if_neg hc1, if_neg hc6]), N0, rfl⟩

theorem d9_0 : decode jdk_30_method_1_code 0 = .ok (.aload_n 0, 1) := by decide +kernel
theorem d9_1 : decode jdk_30_method_1_code 1 = .ok (.invokespecial 1, 3) := by decide +kernel
theorem d9_4 : decode jdk_30_method_1_code 4 = .ok (.return_, 1) := by decide +kernel
theorem pn_9 : plainName "java/lang/Record" = true := by first | (simp [plainName, overriddenIn]; done) | decide +kernel
theorem ef_9 (m : MethodId) (x0 : Addr) : entryFrame m #[(.ref x0)] 1 = mkF m 0 #[.val (.ref x0)] [] := by first | (simp [entryFrame, mkF, argsToLocals, Value.category]; done) | rfl
def Q9 (Z : State) (a1 : Addr) (h0 : Heap) (n0 : Nat) (v : Option Value) (h : Heap) (L : List Loc) : Prop := v = none ∧ Fr n0 L ∧ h = h0
set_option maxRecDepth 65536 in
set_option maxHeartbeats 40000000 in
theorem rm9 (l : Launch) (Z : State) (a0 : Array Value) (hw : ∀ d ∈ tables_1, d.before a0 Z = true) (ws : List Jvm.Cond) (a1 : Addr) (h0 : Heap) (n0 : Nat) (Z0 : n0 ≤ h0.size) :
    MetFree l (⟨"java/lang/Record", "<init>", "()V"⟩ : MethodName) (head1 (Jvm.Cond.code (⟨"java/lang/Record", "<init>", "()V"⟩ : MethodName) jdk_30_method_1_code 1 none :: ws) ({ frames := 1, cells := 0, slots := 0, locals := 12 } : Room)) (fun a U => a = #[(.ref a1)] ∧ Z.Warmed39 U.vm ∧ U.heap = h0) (fun _ _ _ _ _ => True) (fun _ U o U' => ∃ v L, o = .returned v ∧ Q9 Z a1 h0 n0 v U'.heap L ∧ FrameEnd U o U' L ({ frames := 1, cells := 0, slots := 0, locals := 12 } : Room).cells ({ frames := 1, cells := 0, slots := 0, locals := 12 } : Room).slots) := by
  refine MetFree.of_bodySF (plainFor_of_name pn_9) hisR ?_
  intro p e s m args below meth c s₁ Bd hml0 hP hK
  obtain ⟨rfl, hZ, hh⟩ := hP
  have hx := Bd.exec
  have hby := Bd.bytes
  have hml : c.maxLocals = 1 := hml0
  have hown0 := findClass_of_methodNamed Bd.named
  have hown : s.vm.findClass "java/lang/Record" = some m.cls := hown0
  have hnm := (name_of_methodNamed Bd.named Bd.method).1
  have X0 : Stand p l e ({ frames := 1, cells := 0, slots := 0, locals := 12 } : Room) s m #[(.ref a1)] below meth c s₁ [] 0 0 := Stand.of_body Bd
  have e0 : s₁.heap = h0 := by rw [← hh, Bd.state]; rfl
  have N0 := Fr.nil n0
  obtain ⟨S0, hS0⟩ : ∃ z, z = s₁.setTop (entryFrame m #[(.ref a1)] 1) := ⟨_, rfl⟩
  have pre0 : own_Go p e below S0 (s₁.setTop (mkF m 0 #[.val (.ref a1)] [])) := fun t k => by rw [hS0]; exact castTop (ef_9 m a1) k
  have fin : ∀ t, Steps p.tables e below S0 t → Steps p.tables e below (s₁.setTop (entryFrame m #[(.ref a1)] 1)) t := fun t k => by rw [hS0] at k; exact k
  have pre1 : own_Go p e below S0 (s₁.setTop (mkF m 1 #[.val (.ref a1)] [(.ref a1)])) := by
    intro t kt
    refine pre0 t ?_
    refine XS.aloadN X0.here hx rfl (hb hby d9_0) rfl rfl ?_
    show Steps p.tables e below (s₁.setTop (mkF m 1 #[.val (.ref a1)] [(.ref a1)])) _
    exact kt
  obtain ⟨T2, X2, e2, st2⟩ := initO X0 hx hZ hown (hw _ (own_w 47 rfl)) (hw _ (own_w 24 rfl)) (hw _ (own_w 25 rfl)) e0 (g := (mkF m 1 #[.val (.ref a1)] [(.ref a1)])) rfl (by rw [hml]; rfl) rfl (hb hby d9_1) (by decide) (W := 0) (by show 2 * 0 + _ ≤ _; exact Nat.le_of_eq rfl) (by decide)
  have pre3 : own_Go p e below S0 (T2.setTop (mkF m 4 #[.val (.ref a1)] [])) := by
    intro t kt
    refine pre1 t ?_
    refine st2 _ ?_
    show Steps p.tables e below (T2.setTop (mkF m 4 #[.val (.ref a1)] [])) _
    exact kt
  obtain ⟨fs, hr, hrun, hended, hW, hsame⟩ := X2.leave (v := none) (fun _ => rfl)
  refine ⟨_, _, fin _ (pre3 _ ?_), hrun, hended, _, _, rfl, ?_, ⟨_, rfl⟩, hW, hsame.mono (by decide) (by decide)⟩
  · exact X2.returnOut hx Bd.returns (hb hby d9_4) hr
  · show Q9 Z a1 h0 n0 _ T2.heap _
    rw [e2]
    exact ⟨rfl, N0, rfl⟩

theorem d8_0 : decode prog_72_method_1_code 0 = .ok (.aload_n 0, 1) := by decide +kernel
theorem d8_1 : decode prog_72_method_1_code 1 = .ok (.invokespecial 1, 3) := by decide +kernel
theorem d8_4 : decode prog_72_method_1_code 4 = .ok (.aload_n 0, 1) := by decide +kernel
theorem d8_5 : decode prog_72_method_1_code 5 = .ok (.aload_n 1, 1) := by decide +kernel
theorem d8_6 : decode prog_72_method_1_code 6 = .ok (.putfield 7, 3) := by decide +kernel
theorem d8_9 : decode prog_72_method_1_code 9 = .ok (.aload_n 0, 1) := by decide +kernel
theorem d8_10 : decode prog_72_method_1_code 10 = .ok (.aload_n 2, 1) := by decide +kernel
theorem d8_11 : decode prog_72_method_1_code 11 = .ok (.putfield 13, 3) := by decide +kernel
theorem d8_14 : decode prog_72_method_1_code 14 = .ok (.aload_n 0, 1) := by decide +kernel
theorem d8_15 : decode prog_72_method_1_code 15 = .ok (.aload_n 3, 1) := by decide +kernel
theorem d8_16 : decode prog_72_method_1_code 16 = .ok (.putfield 16, 3) := by decide +kernel
theorem d8_19 : decode prog_72_method_1_code 19 = .ok (.aload_n 0, 1) := by decide +kernel
theorem d8_20 : decode prog_72_method_1_code 20 = .ok (.aload 4, 2) := by decide +kernel
theorem d8_22 : decode prog_72_method_1_code 22 = .ok (.putfield 19, 3) := by decide +kernel
theorem d8_25 : decode prog_72_method_1_code 25 = .ok (.aload_n 0, 1) := by decide +kernel
theorem d8_26 : decode prog_72_method_1_code 26 = .ok (.aload 5, 2) := by decide +kernel
theorem d8_28 : decode prog_72_method_1_code 28 = .ok (.putfield 22, 3) := by decide +kernel
theorem d8_31 : decode prog_72_method_1_code 31 = .ok (.aload_n 0, 1) := by decide +kernel
theorem d8_32 : decode prog_72_method_1_code 32 = .ok (.aload 6, 2) := by decide +kernel
theorem d8_34 : decode prog_72_method_1_code 34 = .ok (.putfield 25, 3) := by decide +kernel
theorem d8_37 : decode prog_72_method_1_code 37 = .ok (.aload_n 0, 1) := by decide +kernel
theorem d8_38 : decode prog_72_method_1_code 38 = .ok (.aload 7, 2) := by decide +kernel
theorem d8_40 : decode prog_72_method_1_code 40 = .ok (.putfield 28, 3) := by decide +kernel
theorem d8_43 : decode prog_72_method_1_code 43 = .ok (.aload_n 0, 1) := by decide +kernel
theorem d8_44 : decode prog_72_method_1_code 44 = .ok (.aload 8, 2) := by decide +kernel
theorem d8_46 : decode prog_72_method_1_code 46 = .ok (.putfield 31, 3) := by decide +kernel
theorem d8_49 : decode prog_72_method_1_code 49 = .ok (.aload_n 0, 1) := by decide +kernel
theorem d8_50 : decode prog_72_method_1_code 50 = .ok (.aload 9, 2) := by decide +kernel
theorem d8_52 : decode prog_72_method_1_code 52 = .ok (.putfield 34, 3) := by decide +kernel
theorem d8_55 : decode prog_72_method_1_code 55 = .ok (.return_, 1) := by decide +kernel
theorem pn_8 : plainName "com/example/refertario/refertario/store/Episode" = true := by first | (simp [plainName, overriddenIn]; done) | decide +kernel
theorem pd_4 : parseMethodDescriptor "()V" = some ⟨[], none⟩ := by decide +kernel
theorem ef_8 (m : MethodId) (x0 : Addr) (x1 : Value) (x2 : Value) (x3 : Value) (x4 : Value) (x5 : Value) (x6 : Value) (x7 : Value) (x8 : Value) (x9 : Value) (y1 : x1.isRef = true) (y2 : x2.isRef = true) (y3 : x3.isRef = true) (y4 : x4.isRef = true) (y5 : x5.isRef = true) (y6 : x6.isRef = true) (y7 : x7.isRef = true) (y8 : x8.isRef = true) (y9 : x9.isRef = true) : entryFrame m #[(.ref x0), x1, x2, x3, x4, x5, x6, x7, x8, x9] 10 = mkF m 0 #[.val (.ref x0), .val x1, .val x2, .val x3, .val x4, .val x5, .val x6, .val x7, .val x8, .val x9] [] := by first | (simp [entryFrame, mkF, argsToLocals, own_catR, own_catI, own_cat y1, own_cat y2, own_cat y3, own_cat y4, own_cat y5, own_cat y6, own_cat y7, own_cat y8, own_cat y9]; done) | rfl
def Q8 (Z : State) (a1 : Addr) (v1 : Value) (v2 : Value) (v3 : Value) (v4 : Value) (v5 : Value) (v6 : Value) (v7 : Value) (v8 : Value) (v9 : Value) (h0 : Heap) (n0 : Nat) (v : Option Value) (h : Heap) (L : List Loc) : Prop := v = none ∧ Fr n0 L ∧ Keep h0 h [a1] ∧ Exa Z h a1 "com/example/refertario/refertario/store/Episode" ∧ Fld Z h a1 "com/example/refertario/refertario/store/Episode" "application" "Ljava/lang/String;" v1 ∧ Fld Z h a1 "com/example/refertario/refertario/store/Episode" "id" "Ljava/lang/String;" v2 ∧ Fld Z h a1 "com/example/refertario/refertario/store/Episode" "idType" "Ljava/lang/String;" v3 ∧ Fld Z h a1 "com/example/refertario/refertario/store/Episode" "patient" "Ljava/lang/String;" v4 ∧ Fld Z h a1 "com/example/refertario/refertario/store/Episode" "patientClass" "Ljava/lang/String;" v5 ∧ Fld Z h a1 "com/example/refertario/refertario/store/Episode" "pointOfCare" "Ljava/lang/String;" v6 ∧ Fld Z h a1 "com/example/refertario/refertario/store/Episode" "admitted" "Ljava/lang/String;" v7 ∧ Fld Z h a1 "com/example/refertario/refertario/store/Episode" "discharged" "Ljava/lang/String;" v8 ∧ Fld Z h a1 "com/example/refertario/refertario/store/Episode" "status" "Lcom/example/refertario/refertario/store/Episode$Status;" v9
set_option maxRecDepth 65536 in
set_option maxHeartbeats 40000000 in
theorem rm8 (l : Launch) (Z : State) (a0 : Array Value) (hw : ∀ d ∈ tables_1, d.before a0 Z = true) (ws : List Jvm.Cond) (a1 : Addr) (v1 : Value) (v2 : Value) (v3 : Value) (v4 : Value) (v5 : Value) (v6 : Value) (v7 : Value) (v8 : Value) (v9 : Value) (h0 : Heap) (n0 : Nat) (Z0 : n0 ≤ h0.size) (r_v1 : (v1.isRef = true)) (r_v2 : (v2.isRef = true)) (r_v3 : (v3.isRef = true)) (r_v4 : (v4.isRef = true)) (r_v5 : (v5.isRef = true)) (r_v6 : (v6.isRef = true)) (r_v7 : (v7.isRef = true)) (r_v8 : (v8.isRef = true)) (r_v9 : (v9.isRef = true)) (xE1 : Exa Z h0 a1 "com/example/refertario/refertario/store/Episode") (xg1 : n0 ≤ a1) (F_0 : Fld Z h0 a1 "com/example/refertario/refertario/store/Episode" "application" "Ljava/lang/String;" .null) (F_1 : Fld Z h0 a1 "com/example/refertario/refertario/store/Episode" "id" "Ljava/lang/String;" .null) (F_2 : Fld Z h0 a1 "com/example/refertario/refertario/store/Episode" "idType" "Ljava/lang/String;" .null) (F_3 : Fld Z h0 a1 "com/example/refertario/refertario/store/Episode" "patient" "Ljava/lang/String;" .null) (F_4 : Fld Z h0 a1 "com/example/refertario/refertario/store/Episode" "patientClass" "Ljava/lang/String;" .null) (F_5 : Fld Z h0 a1 "com/example/refertario/refertario/store/Episode" "pointOfCare" "Ljava/lang/String;" .null) (F_6 : Fld Z h0 a1 "com/example/refertario/refertario/store/Episode" "admitted" "Ljava/lang/String;" .null) (F_7 : Fld Z h0 a1 "com/example/refertario/refertario/store/Episode" "discharged" "Ljava/lang/String;" .null) (F_8 : Fld Z h0 a1 "com/example/refertario/refertario/store/Episode" "status" "Lcom/example/refertario/refertario/store/Episode$Status;" .null) :
    MetFree l (⟨"com/example/refertario/refertario/store/Episode", "<init>", "(Ljava/lang/String;Ljava/lang/String;Ljava/lang/String;Ljava/lang/String;Ljava/lang/String;Ljava/lang/String;Ljava/lang/String;Ljava/lang/String;Lcom/example/refertario/refertario/store/Episode$Status;)V"⟩ : MethodName) (head1 (Jvm.Cond.code (⟨"com/example/refertario/refertario/store/Episode", "<init>", "(Ljava/lang/String;Ljava/lang/String;Ljava/lang/String;Ljava/lang/String;Ljava/lang/String;Ljava/lang/String;Ljava/lang/String;Ljava/lang/String;Lcom/example/refertario/refertario/store/Episode$Status;)V"⟩ : MethodName) prog_72_method_1_code 10 none :: ws) ({ frames := 2, cells := 0, slots := 0, locals := 24 } : Room)) (fun a U => a = #[(.ref a1), v1, v2, v3, v4, v5, v6, v7, v8, v9] ∧ Z.Warmed39 U.vm ∧ U.heap = h0) (fun _ _ _ _ _ => True) (fun _ U o U' => ∃ v L, o = .returned v ∧ Q8 Z a1 v1 v2 v3 v4 v5 v6 v7 v8 v9 h0 n0 v U'.heap L ∧ FrameEnd U o U' L ({ frames := 2, cells := 0, slots := 0, locals := 24 } : Room).cells ({ frames := 2, cells := 0, slots := 0, locals := 24 } : Room).slots) := by
  refine MetFree.of_bodySF (plainFor_of_name pn_8) hisR ?_
  intro p e s m args below meth c s₁ Bd hml0 hP hK
  obtain ⟨rfl, hZ, hh⟩ := hP
  have hx := Bd.exec
  have hby := Bd.bytes
  have hml : c.maxLocals = 10 := hml0
  have hown0 := findClass_of_methodNamed Bd.named
  have hown : s.vm.findClass "com/example/refertario/refertario/store/Episode" = some m.cls := hown0
  have hnm := (name_of_methodNamed Bd.named Bd.method).1
  have X0 : Stand p l e ({ frames := 2, cells := 0, slots := 0, locals := 24 } : Room) s m #[(.ref a1), v1, v2, v3, v4, v5, v6, v7, v8, v9] below meth c s₁ [] 0 0 := Stand.of_body Bd
  have e0 : s₁.heap = h0 := by rw [← hh, Bd.state]; rfl
  have N0 := Fr.nil n0
  obtain ⟨S0, hS0⟩ : ∃ z, z = s₁.setTop (entryFrame m #[(.ref a1), v1, v2, v3, v4, v5, v6, v7, v8, v9] 10) := ⟨_, rfl⟩
  have pre0 : own_Go p e below S0 (s₁.setTop (mkF m 0 #[.val (.ref a1), .val v1, .val v2, .val v3, .val v4, .val v5, .val v6, .val v7, .val v8, .val v9] [])) := fun t k => by rw [hS0]; exact castTop (ef_8 m a1 v1 v2 v3 v4 v5 v6 v7 v8 v9 r_v1 r_v2 r_v3 r_v4 r_v5 r_v6 r_v7 r_v8 r_v9) k
  have fin : ∀ t, Steps p.tables e below S0 t → Steps p.tables e below (s₁.setTop (entryFrame m #[(.ref a1), v1, v2, v3, v4, v5, v6, v7, v8, v9] 10)) t := fun t k => by rw [hS0] at k; exact k
  have kc0 : Keep h0 h0 [a1] := Keep.refl _ _
  have pre1 : own_Go p e below S0 (s₁.setTop (mkF m 1 #[.val (.ref a1), .val v1, .val v2, .val v3, .val v4, .val v5, .val v6, .val v7, .val v8, .val v9] [(.ref a1)])) := by
    intro t kt
    refine pre0 t ?_
    refine XS.aloadN X0.here hx rfl (hb hby d8_0) rfl rfl ?_
    show Steps p.tables e below (s₁.setTop (mkF m 1 #[.val (.ref a1), .val v1, .val v2, .val v3, .val v4, .val v5, .val v6, .val v7, .val v8, .val v9] [(.ref a1)])) _
    exact kt
  obtain ⟨_, _, ⟨T2, L2, k2, n2⟩, -, X2, ⟨Lc2, hQ2, l2, y2, z2⟩, st2⟩ := X0.specialBack hx (y := (⟨"java/lang/Record", "<init>", "()V"⟩ : MethodName)) rfl hown (mvT hZ (hw _ (own_w 42 rfl))) (mvT hZ (hw _ (own_w 43 rfl))) (mvT hZ (hw _ (own_w 46 rfl))) (by decide) (backOf (W := 0) (rm9 l Z a0 hw [] a1 h0 n0 Z0 ) hZ (hw _ (own_w 46 rfl)) (hw _ (own_w 45 rfl)) (by decide) (by decide)) (g := (mkF m 1 #[.val (.ref a1), .val v1, .val v2, .val v3, .val v4, .val v5, .val v6, .val v7, .val v8, .val v9] [(.ref a1)])) rfl (by rw [hml]; rfl) (Steps.refl _) (a := a1) (argsL := []) (rest := []) (lenOf pd_4 rfl) rfl (by show 2 * 0 + _ ≤ _; exact Nat.le_of_eq rfl) (hb hby d8_1) (fun _ _ => ⟨rfl, e0, (by decide : 0 + 0 ≤ _), (by decide : 0 + 0 ≤ _)⟩)
  dsimp only [Pt.U, Pt.locs, Pt.cells, Pt.slots] at X2 l2 y2 z2 st2 hQ2
  subst l2 y2 z2
  obtain ⟨rfl, Nq2, eq2⟩ := hQ2
  have N2 := Fr.app N0 Nq2
  have pre3 : own_Go p e below S0 (T2.setTop (mkF m 6 #[.val (.ref a1), .val v1, .val v2, .val v3, .val v4, .val v5, .val v6, .val v7, .val v8, .val v9] [v1, (.ref a1)])) := by
    intro t kt
    refine pre1 t ?_
    refine st2.trans ?_
    show Steps p.tables e below (T2.setTop (mkF m 4 #[.val (.ref a1), .val v1, .val v2, .val v3, .val v4, .val v5, .val v6, .val v7, .val v8, .val v9] [])) _
    refine XS.aloadN X2.here hx rfl (hb hby d8_4) rfl rfl ?_
    show Steps p.tables e below (T2.setTop (mkF m 5 #[.val (.ref a1), .val v1, .val v2, .val v3, .val v4, .val v5, .val v6, .val v7, .val v8, .val v9] [(.ref a1)])) _
    refine XS.aloadN X2.here hx rfl (hb hby d8_5) rfl r_v1 ?_
    show Steps p.tables e below (T2.setTop (mkF m 6 #[.val (.ref a1), .val v1, .val v2, .val v3, .val v4, .val v5, .val v6, .val v7, .val v8, .val v9] [v1, (.ref a1)])) _
    exact kt
  obtain ⟨T4, h4, X4, e4, W4, st4⟩ := putF X2 hx hZ hown (host := "") (Or.inl (hw _ (own_w 48 rfl))) Via.refl eq2 F_0 xE1 (Or.inr ⟨(hw _ (own_w 49 rfl)), rfl, hnm⟩) (hw _ (own_w 37 rfl)) (ty := (.object "java/lang/String")) (by decide) (own_narR r_v1) (own_fitR r_v1) (g := (mkF m 6 #[.val (.ref a1), .val v1, .val v2, .val v3, .val v4, .val v5, .val v6, .val v7, .val v8, .val v9] [v1, (.ref a1)])) rfl rfl (hb hby d8_6)
  have N4 := Fr.snoc X4 N2 xg1
  have zs5 : n0 ≤ h4.size := Nat.le_trans Z0 (Keep.of_wr W4).1
  have kc6 : Keep h0 h4 [a1] := kc0.wr W4 (Or.inl (List.mem_of_getElem? (i := 0) rfl))
  have fw4 : Fld Z h4 a1 "com/example/refertario/refertario/store/Episode" "application" "Ljava/lang/String;" v1 := F_0.same W4
  have pre7 : own_Go p e below S0 (T4.setTop (mkF m 11 #[.val (.ref a1), .val v1, .val v2, .val v3, .val v4, .val v5, .val v6, .val v7, .val v8, .val v9] [v2, (.ref a1)])) := by
    intro t kt
    refine pre3 t ?_
    refine st4 _ ?_
    show Steps p.tables e below (T4.setTop (mkF m 9 #[.val (.ref a1), .val v1, .val v2, .val v3, .val v4, .val v5, .val v6, .val v7, .val v8, .val v9] [])) _
    refine XS.aloadN X4.here hx rfl (hb hby d8_9) rfl rfl ?_
    show Steps p.tables e below (T4.setTop (mkF m 10 #[.val (.ref a1), .val v1, .val v2, .val v3, .val v4, .val v5, .val v6, .val v7, .val v8, .val v9] [(.ref a1)])) _
    refine XS.aloadN X4.here hx rfl (hb hby d8_10) rfl r_v2 ?_
    show Steps p.tables e below (T4.setTop (mkF m 11 #[.val (.ref a1), .val v1, .val v2, .val v3, .val v4, .val v5, .val v6, .val v7, .val v8, .val v9] [v2, (.ref a1)])) _
    exact kt
  have f8 : Fld Z h4 a1 "com/example/refertario/refertario/store/Episode" "id" "Ljava/lang/String;" .null := (F_1.other W4 (Or.inr (slot_ne (Or.inr (hw _ (own_w 51 rfl))) (Or.inr (hw _ (own_w 49 rfl))) (by decide) (t := (.object "java/lang/String")) (t' := (.object "java/lang/String")) (by decide) (by decide))))
  have f9 : Exa Z h4 a1 "com/example/refertario/refertario/store/Episode" := (xE1.wr W4)
  obtain ⟨T10, h10, X10, e10, W10, st10⟩ := putF X4 hx hZ hown (host := "") (Or.inl (hw _ (own_w 50 rfl))) Via.refl e4 f8 f9 (Or.inr ⟨(hw _ (own_w 51 rfl)), rfl, hnm⟩) (hw _ (own_w 37 rfl)) (ty := (.object "java/lang/String")) (by decide) (own_narR r_v2) (own_fitR r_v2) (g := (mkF m 11 #[.val (.ref a1), .val v1, .val v2, .val v3, .val v4, .val v5, .val v6, .val v7, .val v8, .val v9] [v2, (.ref a1)])) rfl rfl (hb hby d8_11)
  have N10 := Fr.snoc X10 N4 xg1
  have zs11 : n0 ≤ h10.size := Nat.le_trans zs5 (Keep.of_wr W10).1
  have kc12 : Keep h0 h10 [a1] := kc6.wr W10 (Or.inl (List.mem_of_getElem? (i := 0) rfl))
  have fw10 : Fld Z h10 a1 "com/example/refertario/refertario/store/Episode" "id" "Ljava/lang/String;" v2 := f8.same W10
  have pre13 : own_Go p e below S0 (T10.setTop (mkF m 16 #[.val (.ref a1), .val v1, .val v2, .val v3, .val v4, .val v5, .val v6, .val v7, .val v8, .val v9] [v3, (.ref a1)])) := by
    intro t kt
    refine pre7 t ?_
    refine st10 _ ?_
    show Steps p.tables e below (T10.setTop (mkF m 14 #[.val (.ref a1), .val v1, .val v2, .val v3, .val v4, .val v5, .val v6, .val v7, .val v8, .val v9] [])) _
    refine XS.aloadN X10.here hx rfl (hb hby d8_14) rfl rfl ?_
    show Steps p.tables e below (T10.setTop (mkF m 15 #[.val (.ref a1), .val v1, .val v2, .val v3, .val v4, .val v5, .val v6, .val v7, .val v8, .val v9] [(.ref a1)])) _
    refine XS.aloadN X10.here hx rfl (hb hby d8_15) rfl r_v3 ?_
    show Steps p.tables e below (T10.setTop (mkF m 16 #[.val (.ref a1), .val v1, .val v2, .val v3, .val v4, .val v5, .val v6, .val v7, .val v8, .val v9] [v3, (.ref a1)])) _
    exact kt
  have f14 : Fld Z h10 a1 "com/example/refertario/refertario/store/Episode" "idType" "Ljava/lang/String;" .null := ((F_2.other W4 (Or.inr (slot_ne (Or.inr (hw _ (own_w 53 rfl))) (Or.inr (hw _ (own_w 49 rfl))) (by decide) (t := (.object "java/lang/String")) (t' := (.object "java/lang/String")) (by decide) (by decide)))).other W10 (Or.inr (slot_ne (Or.inr (hw _ (own_w 53 rfl))) (Or.inr (hw _ (own_w 51 rfl))) (by decide) (t := (.object "java/lang/String")) (t' := (.object "java/lang/String")) (by decide) (by decide))))
  have f15 : Exa Z h10 a1 "com/example/refertario/refertario/store/Episode" := (f9.wr W10)
  obtain ⟨T16, h16, X16, e16, W16, st16⟩ := putF X10 hx hZ hown (host := "") (Or.inl (hw _ (own_w 52 rfl))) Via.refl e10 f14 f15 (Or.inr ⟨(hw _ (own_w 53 rfl)), rfl, hnm⟩) (hw _ (own_w 37 rfl)) (ty := (.object "java/lang/String")) (by decide) (own_narR r_v3) (own_fitR r_v3) (g := (mkF m 16 #[.val (.ref a1), .val v1, .val v2, .val v3, .val v4, .val v5, .val v6, .val v7, .val v8, .val v9] [v3, (.ref a1)])) rfl rfl (hb hby d8_16)
  have N16 := Fr.snoc X16 N10 xg1
  have zs17 : n0 ≤ h16.size := Nat.le_trans zs11 (Keep.of_wr W16).1
  have kc18 : Keep h0 h16 [a1] := kc12.wr W16 (Or.inl (List.mem_of_getElem? (i := 0) rfl))
  have fw16 : Fld Z h16 a1 "com/example/refertario/refertario/store/Episode" "idType" "Ljava/lang/String;" v3 := f14.same W16
  have pre19 : own_Go p e below S0 (T16.setTop (mkF m 22 #[.val (.ref a1), .val v1, .val v2, .val v3, .val v4, .val v5, .val v6, .val v7, .val v8, .val v9] [v4, (.ref a1)])) := by
    intro t kt
    refine pre13 t ?_
    refine st16 _ ?_
    show Steps p.tables e below (T16.setTop (mkF m 19 #[.val (.ref a1), .val v1, .val v2, .val v3, .val v4, .val v5, .val v6, .val v7, .val v8, .val v9] [])) _
    refine XS.aloadN X16.here hx rfl (hb hby d8_19) rfl rfl ?_
    show Steps p.tables e below (T16.setTop (mkF m 20 #[.val (.ref a1), .val v1, .val v2, .val v3, .val v4, .val v5, .val v6, .val v7, .val v8, .val v9] [(.ref a1)])) _
    refine XS.aload X16.here hx rfl (hb hby d8_20) rfl r_v4 ?_
    show Steps p.tables e below (T16.setTop (mkF m 22 #[.val (.ref a1), .val v1, .val v2, .val v3, .val v4, .val v5, .val v6, .val v7, .val v8, .val v9] [v4, (.ref a1)])) _
    exact kt
  have f20 : Fld Z h16 a1 "com/example/refertario/refertario/store/Episode" "patient" "Ljava/lang/String;" .null := (((F_3.other W4 (Or.inr (slot_ne (Or.inr (hw _ (own_w 55 rfl))) (Or.inr (hw _ (own_w 49 rfl))) (by decide) (t := (.object "java/lang/String")) (t' := (.object "java/lang/String")) (by decide) (by decide)))).other W10 (Or.inr (slot_ne (Or.inr (hw _ (own_w 55 rfl))) (Or.inr (hw _ (own_w 51 rfl))) (by decide) (t := (.object "java/lang/String")) (t' := (.object "java/lang/String")) (by decide) (by decide)))).other W16 (Or.inr (slot_ne (Or.inr (hw _ (own_w 55 rfl))) (Or.inr (hw _ (own_w 53 rfl))) (by decide) (t := (.object "java/lang/String")) (t' := (.object "java/lang/String")) (by decide) (by decide))))
  have f21 : Exa Z h16 a1 "com/example/refertario/refertario/store/Episode" := (f15.wr W16)
  obtain ⟨T22, h22, X22, e22, W22, st22⟩ := putF X16 hx hZ hown (host := "") (Or.inl (hw _ (own_w 54 rfl))) Via.refl e16 f20 f21 (Or.inr ⟨(hw _ (own_w 55 rfl)), rfl, hnm⟩) (hw _ (own_w 37 rfl)) (ty := (.object "java/lang/String")) (by decide) (own_narR r_v4) (own_fitR r_v4) (g := (mkF m 22 #[.val (.ref a1), .val v1, .val v2, .val v3, .val v4, .val v5, .val v6, .val v7, .val v8, .val v9] [v4, (.ref a1)])) rfl rfl (hb hby d8_22)
  have N22 := Fr.snoc X22 N16 xg1
  have zs23 : n0 ≤ h22.size := Nat.le_trans zs17 (Keep.of_wr W22).1
  have kc24 : Keep h0 h22 [a1] := kc18.wr W22 (Or.inl (List.mem_of_getElem? (i := 0) rfl))
  have fw22 : Fld Z h22 a1 "com/example/refertario/refertario/store/Episode" "patient" "Ljava/lang/String;" v4 := f20.same W22
  have pre25 : own_Go p e below S0 (T22.setTop (mkF m 28 #[.val (.ref a1), .val v1, .val v2, .val v3, .val v4, .val v5, .val v6, .val v7, .val v8, .val v9] [v5, (.ref a1)])) := by
    intro t kt
    refine pre19 t ?_
    refine st22 _ ?_
    show Steps p.tables e below (T22.setTop (mkF m 25 #[.val (.ref a1), .val v1, .val v2, .val v3, .val v4, .val v5, .val v6, .val v7, .val v8, .val v9] [])) _
    refine XS.aloadN X22.here hx rfl (hb hby d8_25) rfl rfl ?_
    show Steps p.tables e below (T22.setTop (mkF m 26 #[.val (.ref a1), .val v1, .val v2, .val v3, .val v4, .val v5, .val v6, .val v7, .val v8, .val v9] [(.ref a1)])) _
    refine XS.aload X22.here hx rfl (hb hby d8_26) rfl r_v5 ?_
    show Steps p.tables e below (T22.setTop (mkF m 28 #[.val (.ref a1), .val v1, .val v2, .val v3, .val v4, .val v5, .val v6, .val v7, .val v8, .val v9] [v5, (.ref a1)])) _
    exact kt
  have f26 := (((F_4.other W4 (Or.inr (slot_ne (Or.inr (hw _ (own_w 57 rfl))) (Or.inr (hw _ (own_w 49 rfl))) (by decide) (t := (.object "java/lang/String")) (t' := (.object "java/lang/String")) (by decide) (by decide)))).other W10 (Or.inr (slot_ne (Or.inr (hw _ (own_w 57 rfl))) (Or.inr (hw _ (own_w 51 rfl))) (by decide) (t := (.object "java/lang/String")) (t' := (.object "java/lang/String")) (by decide) (by decide)))).other W16 (Or.inr (slot_ne (Or.inr (hw _ (own_w 57 rfl))) (Or.inr (hw _ (own_w 53 rfl))) (by decide) (t := (.object "java/lang/String")) (t' := (.object "java/lang/String")) (by decide) (by decide))))
  have f27 : Fld Z h22 a1 "com/example/refertario/refertario/store/Episode" "patientClass" "Ljava/lang/String;" .null := (f26.other W22 (Or.inr (slot_ne (Or.inr (hw _ (own_w 57 rfl))) (Or.inr (hw _ (own_w 55 rfl))) (by decide) (t := (.object "java/lang/String")) (t' := (.object "java/lang/String")) (by decide) (by decide))))
  have f28 : Exa Z h22 a1 "com/example/refertario/refertario/store/Episode" := (f21.wr W22)
  obtain ⟨T29, h29, X29, e29, W29, st29⟩ := putF X22 hx hZ hown (host := "") (Or.inl (hw _ (own_w 56 rfl))) Via.refl e22 f27 f28 (Or.inr ⟨(hw _ (own_w 57 rfl)), rfl, hnm⟩) (hw _ (own_w 37 rfl)) (ty := (.object "java/lang/String")) (by decide) (own_narR r_v5) (own_fitR r_v5) (g := (mkF m 28 #[.val (.ref a1), .val v1, .val v2, .val v3, .val v4, .val v5, .val v6, .val v7, .val v8, .val v9] [v5, (.ref a1)])) rfl rfl (hb hby d8_28)
  have N29 := Fr.snoc X29 N22 xg1
  have zs30 : n0 ≤ h29.size := Nat.le_trans zs23 (Keep.of_wr W29).1
  have kc31 : Keep h0 h29 [a1] := kc24.wr W29 (Or.inl (List.mem_of_getElem? (i := 0) rfl))
  have fw29 : Fld Z h29 a1 "com/example/refertario/refertario/store/Episode" "patientClass" "Ljava/lang/String;" v5 := f27.same W29
  have pre32 : own_Go p e below S0 (T29.setTop (mkF m 34 #[.val (.ref a1), .val v1, .val v2, .val v3, .val v4, .val v5, .val v6, .val v7, .val v8, .val v9] [v6, (.ref a1)])) := by
    intro t kt
    refine pre25 t ?_
    refine st29 _ ?_
    show Steps p.tables e below (T29.setTop (mkF m 31 #[.val (.ref a1), .val v1, .val v2, .val v3, .val v4, .val v5, .val v6, .val v7, .val v8, .val v9] [])) _
    refine XS.aloadN X29.here hx rfl (hb hby d8_31) rfl rfl ?_
    show Steps p.tables e below (T29.setTop (mkF m 32 #[.val (.ref a1), .val v1, .val v2, .val v3, .val v4, .val v5, .val v6, .val v7, .val v8, .val v9] [(.ref a1)])) _
    refine XS.aload X29.here hx rfl (hb hby d8_32) rfl r_v6 ?_
    show Steps p.tables e below (T29.setTop (mkF m 34 #[.val (.ref a1), .val v1, .val v2, .val v3, .val v4, .val v5, .val v6, .val v7, .val v8, .val v9] [v6, (.ref a1)])) _
    exact kt
  have f33 := (((F_5.other W4 (Or.inr (slot_ne (Or.inr (hw _ (own_w 59 rfl))) (Or.inr (hw _ (own_w 49 rfl))) (by decide) (t := (.object "java/lang/String")) (t' := (.object "java/lang/String")) (by decide) (by decide)))).other W10 (Or.inr (slot_ne (Or.inr (hw _ (own_w 59 rfl))) (Or.inr (hw _ (own_w 51 rfl))) (by decide) (t := (.object "java/lang/String")) (t' := (.object "java/lang/String")) (by decide) (by decide)))).other W16 (Or.inr (slot_ne (Or.inr (hw _ (own_w 59 rfl))) (Or.inr (hw _ (own_w 53 rfl))) (by decide) (t := (.object "java/lang/String")) (t' := (.object "java/lang/String")) (by decide) (by decide))))
  have f34 : Fld Z h29 a1 "com/example/refertario/refertario/store/Episode" "pointOfCare" "Ljava/lang/String;" .null := ((f33.other W22 (Or.inr (slot_ne (Or.inr (hw _ (own_w 59 rfl))) (Or.inr (hw _ (own_w 55 rfl))) (by decide) (t := (.object "java/lang/String")) (t' := (.object "java/lang/String")) (by decide) (by decide)))).other W29 (Or.inr (slot_ne (Or.inr (hw _ (own_w 59 rfl))) (Or.inr (hw _ (own_w 57 rfl))) (by decide) (t := (.object "java/lang/String")) (t' := (.object "java/lang/String")) (by decide) (by decide))))
  have f35 : Exa Z h29 a1 "com/example/refertario/refertario/store/Episode" := (f28.wr W29)
  obtain ⟨T36, h36, X36, e36, W36, st36⟩ := putF X29 hx hZ hown (host := "") (Or.inl (hw _ (own_w 58 rfl))) Via.refl e29 f34 f35 (Or.inr ⟨(hw _ (own_w 59 rfl)), rfl, hnm⟩) (hw _ (own_w 37 rfl)) (ty := (.object "java/lang/String")) (by decide) (own_narR r_v6) (own_fitR r_v6) (g := (mkF m 34 #[.val (.ref a1), .val v1, .val v2, .val v3, .val v4, .val v5, .val v6, .val v7, .val v8, .val v9] [v6, (.ref a1)])) rfl rfl (hb hby d8_34)
  have N36 := Fr.snoc X36 N29 xg1
  have zs37 : n0 ≤ h36.size := Nat.le_trans zs30 (Keep.of_wr W36).1
  have kc38 : Keep h0 h36 [a1] := kc31.wr W36 (Or.inl (List.mem_of_getElem? (i := 0) rfl))
  have fw36 : Fld Z h36 a1 "com/example/refertario/refertario/store/Episode" "pointOfCare" "Ljava/lang/String;" v6 := f34.same W36
  have pre39 : own_Go p e below S0 (T36.setTop (mkF m 40 #[.val (.ref a1), .val v1, .val v2, .val v3, .val v4, .val v5, .val v6, .val v7, .val v8, .val v9] [v7, (.ref a1)])) := by
    intro t kt
    refine pre32 t ?_
    refine st36 _ ?_
    show Steps p.tables e below (T36.setTop (mkF m 37 #[.val (.ref a1), .val v1, .val v2, .val v3, .val v4, .val v5, .val v6, .val v7, .val v8, .val v9] [])) _
    refine XS.aloadN X36.here hx rfl (hb hby d8_37) rfl rfl ?_
    show Steps p.tables e below (T36.setTop (mkF m 38 #[.val (.ref a1), .val v1, .val v2, .val v3, .val v4, .val v5, .val v6, .val v7, .val v8, .val v9] [(.ref a1)])) _
    refine XS.aload X36.here hx rfl (hb hby d8_38) rfl r_v7 ?_
    show Steps p.tables e below (T36.setTop (mkF m 40 #[.val (.ref a1), .val v1, .val v2, .val v3, .val v4, .val v5, .val v6, .val v7, .val v8, .val v9] [v7, (.ref a1)])) _
    exact kt
  have f40 := (((F_6.other W4 (Or.inr (slot_ne (Or.inr (hw _ (own_w 61 rfl))) (Or.inr (hw _ (own_w 49 rfl))) (by decide) (t := (.object "java/lang/String")) (t' := (.object "java/lang/String")) (by decide) (by decide)))).other W10 (Or.inr (slot_ne (Or.inr (hw _ (own_w 61 rfl))) (Or.inr (hw _ (own_w 51 rfl))) (by decide) (t := (.object "java/lang/String")) (t' := (.object "java/lang/String")) (by decide) (by decide)))).other W16 (Or.inr (slot_ne (Or.inr (hw _ (own_w 61 rfl))) (Or.inr (hw _ (own_w 53 rfl))) (by decide) (t := (.object "java/lang/String")) (t' := (.object "java/lang/String")) (by decide) (by decide))))
  have f41 : Fld Z h36 a1 "com/example/refertario/refertario/store/Episode" "admitted" "Ljava/lang/String;" .null := (((f40.other W22 (Or.inr (slot_ne (Or.inr (hw _ (own_w 61 rfl))) (Or.inr (hw _ (own_w 55 rfl))) (by decide) (t := (.object "java/lang/String")) (t' := (.object "java/lang/String")) (by decide) (by decide)))).other W29 (Or.inr (slot_ne (Or.inr (hw _ (own_w 61 rfl))) (Or.inr (hw _ (own_w 57 rfl))) (by decide) (t := (.object "java/lang/String")) (t' := (.object "java/lang/String")) (by decide) (by decide)))).other W36 (Or.inr (slot_ne (Or.inr (hw _ (own_w 61 rfl))) (Or.inr (hw _ (own_w 59 rfl))) (by decide) (t := (.object "java/lang/String")) (t' := (.object "java/lang/String")) (by decide) (by decide))))
  have f42 : Exa Z h36 a1 "com/example/refertario/refertario/store/Episode" := (f35.wr W36)
  obtain ⟨T43, h43, X43, e43, W43, st43⟩ := putF X36 hx hZ hown (host := "") (Or.inl (hw _ (own_w 60 rfl))) Via.refl e36 f41 f42 (Or.inr ⟨(hw _ (own_w 61 rfl)), rfl, hnm⟩) (hw _ (own_w 37 rfl)) (ty := (.object "java/lang/String")) (by decide) (own_narR r_v7) (own_fitR r_v7) (g := (mkF m 40 #[.val (.ref a1), .val v1, .val v2, .val v3, .val v4, .val v5, .val v6, .val v7, .val v8, .val v9] [v7, (.ref a1)])) rfl rfl (hb hby d8_40)
  have N43 := Fr.snoc X43 N36 xg1
  have zs44 : n0 ≤ h43.size := Nat.le_trans zs37 (Keep.of_wr W43).1
  have kc45 : Keep h0 h43 [a1] := kc38.wr W43 (Or.inl (List.mem_of_getElem? (i := 0) rfl))
  have fw43 : Fld Z h43 a1 "com/example/refertario/refertario/store/Episode" "admitted" "Ljava/lang/String;" v7 := f41.same W43
  have pre46 : own_Go p e below S0 (T43.setTop (mkF m 46 #[.val (.ref a1), .val v1, .val v2, .val v3, .val v4, .val v5, .val v6, .val v7, .val v8, .val v9] [v8, (.ref a1)])) := by
    intro t kt
    refine pre39 t ?_
    refine st43 _ ?_
    show Steps p.tables e below (T43.setTop (mkF m 43 #[.val (.ref a1), .val v1, .val v2, .val v3, .val v4, .val v5, .val v6, .val v7, .val v8, .val v9] [])) _
    refine XS.aloadN X43.here hx rfl (hb hby d8_43) rfl rfl ?_
    show Steps p.tables e below (T43.setTop (mkF m 44 #[.val (.ref a1), .val v1, .val v2, .val v3, .val v4, .val v5, .val v6, .val v7, .val v8, .val v9] [(.ref a1)])) _
    refine XS.aload X43.here hx rfl (hb hby d8_44) rfl r_v8 ?_
    show Steps p.tables e below (T43.setTop (mkF m 46 #[.val (.ref a1), .val v1, .val v2, .val v3, .val v4, .val v5, .val v6, .val v7, .val v8, .val v9] [v8, (.ref a1)])) _
    exact kt
  have f47 := (((F_7.other W4 (Or.inr (slot_ne (Or.inr (hw _ (own_w 63 rfl))) (Or.inr (hw _ (own_w 49 rfl))) (by decide) (t := (.object "java/lang/String")) (t' := (.object "java/lang/String")) (by decide) (by decide)))).other W10 (Or.inr (slot_ne (Or.inr (hw _ (own_w 63 rfl))) (Or.inr (hw _ (own_w 51 rfl))) (by decide) (t := (.object "java/lang/String")) (t' := (.object "java/lang/String")) (by decide) (by decide)))).other W16 (Or.inr (slot_ne (Or.inr (hw _ (own_w 63 rfl))) (Or.inr (hw _ (own_w 53 rfl))) (by decide) (t := (.object "java/lang/String")) (t' := (.object "java/lang/String")) (by decide) (by decide))))
  have f48 : Fld Z h43 a1 "com/example/refertario/refertario/store/Episode" "discharged" "Ljava/lang/String;" .null := ((((f47.other W22 (Or.inr (slot_ne (Or.inr (hw _ (own_w 63 rfl))) (Or.inr (hw _ (own_w 55 rfl))) (by decide) (t := (.object "java/lang/String")) (t' := (.object "java/lang/String")) (by decide) (by decide)))).other W29 (Or.inr (slot_ne (Or.inr (hw _ (own_w 63 rfl))) (Or.inr (hw _ (own_w 57 rfl))) (by decide) (t := (.object "java/lang/String")) (t' := (.object "java/lang/String")) (by decide) (by decide)))).other W36 (Or.inr (slot_ne (Or.inr (hw _ (own_w 63 rfl))) (Or.inr (hw _ (own_w 59 rfl))) (by decide) (t := (.object "java/lang/String")) (t' := (.object "java/lang/String")) (by decide) (by decide)))).other W43 (Or.inr (slot_ne (Or.inr (hw _ (own_w 63 rfl))) (Or.inr (hw _ (own_w 61 rfl))) (by decide) (t := (.object "java/lang/String")) (t' := (.object "java/lang/String")) (by decide) (by decide))))
  have f49 : Exa Z h43 a1 "com/example/refertario/refertario/store/Episode" := (f42.wr W43)
  obtain ⟨T50, h50, X50, e50, W50, st50⟩ := putF X43 hx hZ hown (host := "") (Or.inl (hw _ (own_w 62 rfl))) Via.refl e43 f48 f49 (Or.inr ⟨(hw _ (own_w 63 rfl)), rfl, hnm⟩) (hw _ (own_w 37 rfl)) (ty := (.object "java/lang/String")) (by decide) (own_narR r_v8) (own_fitR r_v8) (g := (mkF m 46 #[.val (.ref a1), .val v1, .val v2, .val v3, .val v4, .val v5, .val v6, .val v7, .val v8, .val v9] [v8, (.ref a1)])) rfl rfl (hb hby d8_46)
  have N50 := Fr.snoc X50 N43 xg1
  have zs51 : n0 ≤ h50.size := Nat.le_trans zs44 (Keep.of_wr W50).1
  have kc52 : Keep h0 h50 [a1] := kc45.wr W50 (Or.inl (List.mem_of_getElem? (i := 0) rfl))
  have fw50 : Fld Z h50 a1 "com/example/refertario/refertario/store/Episode" "discharged" "Ljava/lang/String;" v8 := f48.same W50
  have pre53 : own_Go p e below S0 (T50.setTop (mkF m 52 #[.val (.ref a1), .val v1, .val v2, .val v3, .val v4, .val v5, .val v6, .val v7, .val v8, .val v9] [v9, (.ref a1)])) := by
    intro t kt
    refine pre46 t ?_
    refine st50 _ ?_
    show Steps p.tables e below (T50.setTop (mkF m 49 #[.val (.ref a1), .val v1, .val v2, .val v3, .val v4, .val v5, .val v6, .val v7, .val v8, .val v9] [])) _
    refine XS.aloadN X50.here hx rfl (hb hby d8_49) rfl rfl ?_
    show Steps p.tables e below (T50.setTop (mkF m 50 #[.val (.ref a1), .val v1, .val v2, .val v3, .val v4, .val v5, .val v6, .val v7, .val v8, .val v9] [(.ref a1)])) _
    refine XS.aload X50.here hx rfl (hb hby d8_50) rfl r_v9 ?_
    show Steps p.tables e below (T50.setTop (mkF m 52 #[.val (.ref a1), .val v1, .val v2, .val v3, .val v4, .val v5, .val v6, .val v7, .val v8, .val v9] [v9, (.ref a1)])) _
    exact kt
  have f54 := (((F_8.other W4 (Or.inr (slot_ne (Or.inr (hw _ (own_w 65 rfl))) (Or.inr (hw _ (own_w 49 rfl))) (by decide) (t := (.object "com/example/refertario/refertario/store/Episode$Status")) (t' := (.object "java/lang/String")) (by decide) (by decide)))).other W10 (Or.inr (slot_ne (Or.inr (hw _ (own_w 65 rfl))) (Or.inr (hw _ (own_w 51 rfl))) (by decide) (t := (.object "com/example/refertario/refertario/store/Episode$Status")) (t' := (.object "java/lang/String")) (by decide) (by decide)))).other W16 (Or.inr (slot_ne (Or.inr (hw _ (own_w 65 rfl))) (Or.inr (hw _ (own_w 53 rfl))) (by decide) (t := (.object "com/example/refertario/refertario/store/Episode$Status")) (t' := (.object "java/lang/String")) (by decide) (by decide))))
  have f55 := ((((f54.other W22 (Or.inr (slot_ne (Or.inr (hw _ (own_w 65 rfl))) (Or.inr (hw _ (own_w 55 rfl))) (by decide) (t := (.object "com/example/refertario/refertario/store/Episode$Status")) (t' := (.object "java/lang/String")) (by decide) (by decide)))).other W29 (Or.inr (slot_ne (Or.inr (hw _ (own_w 65 rfl))) (Or.inr (hw _ (own_w 57 rfl))) (by decide) (t := (.object "com/example/refertario/refertario/store/Episode$Status")) (t' := (.object "java/lang/String")) (by decide) (by decide)))).other W36 (Or.inr (slot_ne (Or.inr (hw _ (own_w 65 rfl))) (Or.inr (hw _ (own_w 59 rfl))) (by decide) (t := (.object "com/example/refertario/refertario/store/Episode$Status")) (t' := (.object "java/lang/String")) (by decide) (by decide)))).other W43 (Or.inr (slot_ne (Or.inr (hw _ (own_w 65 rfl))) (Or.inr (hw _ (own_w 61 rfl))) (by decide) (t := (.object "com/example/refertario/refertario/store/Episode$Status")) (t' := (.object "java/lang/String")) (by decide) (by decide))))
  have f56 : Fld Z h50 a1 "com/example/refertario/refertario/store/Episode" "status" "Lcom/example/refertario/refertario/store/Episode$Status;" .null := (f55.other W50 (Or.inr (slot_ne (Or.inr (hw _ (own_w 65 rfl))) (Or.inr (hw _ (own_w 63 rfl))) (by decide) (t := (.object "com/example/refertario/refertario/store/Episode$Status")) (t' := (.object "java/lang/String")) (by decide) (by decide))))
  have f57 : Exa Z h50 a1 "com/example/refertario/refertario/store/Episode" := (f49.wr W50)
  obtain ⟨T58, h58, X58, e58, W58, st58⟩ := putF X50 hx hZ hown (host := "") (Or.inl (hw _ (own_w 64 rfl))) Via.refl e50 f56 f57 (Or.inr ⟨(hw _ (own_w 65 rfl)), rfl, hnm⟩) (hw _ (own_w 37 rfl)) (ty := (.object "com/example/refertario/refertario/store/Episode$Status")) (by decide) (own_narR r_v9) (own_fitR r_v9) (g := (mkF m 52 #[.val (.ref a1), .val v1, .val v2, .val v3, .val v4, .val v5, .val v6, .val v7, .val v8, .val v9] [v9, (.ref a1)])) rfl rfl (hb hby d8_52)
  have N58 := Fr.snoc X58 N50 xg1
  have zs59 : n0 ≤ h58.size := Nat.le_trans zs51 (Keep.of_wr W58).1
  have kc60 : Keep h0 h58 [a1] := kc52.wr W58 (Or.inl (List.mem_of_getElem? (i := 0) rfl))
  have fw58 : Fld Z h58 a1 "com/example/refertario/refertario/store/Episode" "status" "Lcom/example/refertario/refertario/store/Episode$Status;" v9 := f56.same W58
  have pre61 : own_Go p e below S0 (T58.setTop (mkF m 55 #[.val (.ref a1), .val v1, .val v2, .val v3, .val v4, .val v5, .val v6, .val v7, .val v8, .val v9] [])) := by
    intro t kt
    refine pre53 t ?_
    refine st58 _ ?_
    show Steps p.tables e below (T58.setTop (mkF m 55 #[.val (.ref a1), .val v1, .val v2, .val v3, .val v4, .val v5, .val v6, .val v7, .val v8, .val v9] [])) _
    exact kt
  obtain ⟨fs, hr, hrun, hended, hW, hsame⟩ := X58.leave (v := none) (fun _ => rfl)
  refine ⟨_, _, fin _ (pre61 _ ?_), hrun, hended, _, _, rfl, ?_, ⟨_, rfl⟩, hW, hsame.mono (by decide) (by decide)⟩
  · exact X58.returnOut hx Bd.returns (hb hby d8_55) hr
  have f62 : Exa Z h58 a1 "com/example/refertario/refertario/store/Episode" := (f57.wr W58)
  have f63 := (((fw4.other W10 (Or.inr (slot_ne (Or.inr (hw _ (own_w 49 rfl))) (Or.inr (hw _ (own_w 51 rfl))) (by decide) (t := (.object "java/lang/String")) (t' := (.object "java/lang/String")) (by decide) (by decide)))).other W16 (Or.inr (slot_ne (Or.inr (hw _ (own_w 49 rfl))) (Or.inr (hw _ (own_w 53 rfl))) (by decide) (t := (.object "java/lang/String")) (t' := (.object "java/lang/String")) (by decide) (by decide)))).other W22 (Or.inr (slot_ne (Or.inr (hw _ (own_w 49 rfl))) (Or.inr (hw _ (own_w 55 rfl))) (by decide) (t := (.object "java/lang/String")) (t' := (.object "java/lang/String")) (by decide) (by decide))))
  have f64 := ((((f63.other W29 (Or.inr (slot_ne (Or.inr (hw _ (own_w 49 rfl))) (Or.inr (hw _ (own_w 57 rfl))) (by decide) (t := (.object "java/lang/String")) (t' := (.object "java/lang/String")) (by decide) (by decide)))).other W36 (Or.inr (slot_ne (Or.inr (hw _ (own_w 49 rfl))) (Or.inr (hw _ (own_w 59 rfl))) (by decide) (t := (.object "java/lang/String")) (t' := (.object "java/lang/String")) (by decide) (by decide)))).other W43 (Or.inr (slot_ne (Or.inr (hw _ (own_w 49 rfl))) (Or.inr (hw _ (own_w 61 rfl))) (by decide) (t := (.object "java/lang/String")) (t' := (.object "java/lang/String")) (by decide) (by decide)))).other W50 (Or.inr (slot_ne (Or.inr (hw _ (own_w 49 rfl))) (Or.inr (hw _ (own_w 63 rfl))) (by decide) (t := (.object "java/lang/String")) (t' := (.object "java/lang/String")) (by decide) (by decide))))
  have f65 : Fld Z h58 a1 "com/example/refertario/refertario/store/Episode" "application" "Ljava/lang/String;" v1 := (f64.other W58 (Or.inr (slot_ne (Or.inr (hw _ (own_w 49 rfl))) (Or.inr (hw _ (own_w 65 rfl))) (by decide) (t := (.object "java/lang/String")) (t' := (.object "com/example/refertario/refertario/store/Episode$Status")) (by decide) (by decide))))
  have f66 := (((fw10.other W16 (Or.inr (slot_ne (Or.inr (hw _ (own_w 51 rfl))) (Or.inr (hw _ (own_w 53 rfl))) (by decide) (t := (.object "java/lang/String")) (t' := (.object "java/lang/String")) (by decide) (by decide)))).other W22 (Or.inr (slot_ne (Or.inr (hw _ (own_w 51 rfl))) (Or.inr (hw _ (own_w 55 rfl))) (by decide) (t := (.object "java/lang/String")) (t' := (.object "java/lang/String")) (by decide) (by decide)))).other W29 (Or.inr (slot_ne (Or.inr (hw _ (own_w 51 rfl))) (Or.inr (hw _ (own_w 57 rfl))) (by decide) (t := (.object "java/lang/String")) (t' := (.object "java/lang/String")) (by decide) (by decide))))
  have f67 : Fld Z h58 a1 "com/example/refertario/refertario/store/Episode" "id" "Ljava/lang/String;" v2 := ((((f66.other W36 (Or.inr (slot_ne (Or.inr (hw _ (own_w 51 rfl))) (Or.inr (hw _ (own_w 59 rfl))) (by decide) (t := (.object "java/lang/String")) (t' := (.object "java/lang/String")) (by decide) (by decide)))).other W43 (Or.inr (slot_ne (Or.inr (hw _ (own_w 51 rfl))) (Or.inr (hw _ (own_w 61 rfl))) (by decide) (t := (.object "java/lang/String")) (t' := (.object "java/lang/String")) (by decide) (by decide)))).other W50 (Or.inr (slot_ne (Or.inr (hw _ (own_w 51 rfl))) (Or.inr (hw _ (own_w 63 rfl))) (by decide) (t := (.object "java/lang/String")) (t' := (.object "java/lang/String")) (by decide) (by decide)))).other W58 (Or.inr (slot_ne (Or.inr (hw _ (own_w 51 rfl))) (Or.inr (hw _ (own_w 65 rfl))) (by decide) (t := (.object "java/lang/String")) (t' := (.object "com/example/refertario/refertario/store/Episode$Status")) (by decide) (by decide))))
  have f68 := (((fw16.other W22 (Or.inr (slot_ne (Or.inr (hw _ (own_w 53 rfl))) (Or.inr (hw _ (own_w 55 rfl))) (by decide) (t := (.object "java/lang/String")) (t' := (.object "java/lang/String")) (by decide) (by decide)))).other W29 (Or.inr (slot_ne (Or.inr (hw _ (own_w 53 rfl))) (Or.inr (hw _ (own_w 57 rfl))) (by decide) (t := (.object "java/lang/String")) (t' := (.object "java/lang/String")) (by decide) (by decide)))).other W36 (Or.inr (slot_ne (Or.inr (hw _ (own_w 53 rfl))) (Or.inr (hw _ (own_w 59 rfl))) (by decide) (t := (.object "java/lang/String")) (t' := (.object "java/lang/String")) (by decide) (by decide))))
  have f69 : Fld Z h58 a1 "com/example/refertario/refertario/store/Episode" "idType" "Ljava/lang/String;" v3 := (((f68.other W43 (Or.inr (slot_ne (Or.inr (hw _ (own_w 53 rfl))) (Or.inr (hw _ (own_w 61 rfl))) (by decide) (t := (.object "java/lang/String")) (t' := (.object "java/lang/String")) (by decide) (by decide)))).other W50 (Or.inr (slot_ne (Or.inr (hw _ (own_w 53 rfl))) (Or.inr (hw _ (own_w 63 rfl))) (by decide) (t := (.object "java/lang/String")) (t' := (.object "java/lang/String")) (by decide) (by decide)))).other W58 (Or.inr (slot_ne (Or.inr (hw _ (own_w 53 rfl))) (Or.inr (hw _ (own_w 65 rfl))) (by decide) (t := (.object "java/lang/String")) (t' := (.object "com/example/refertario/refertario/store/Episode$Status")) (by decide) (by decide))))
  have f70 := (((fw22.other W29 (Or.inr (slot_ne (Or.inr (hw _ (own_w 55 rfl))) (Or.inr (hw _ (own_w 57 rfl))) (by decide) (t := (.object "java/lang/String")) (t' := (.object "java/lang/String")) (by decide) (by decide)))).other W36 (Or.inr (slot_ne (Or.inr (hw _ (own_w 55 rfl))) (Or.inr (hw _ (own_w 59 rfl))) (by decide) (t := (.object "java/lang/String")) (t' := (.object "java/lang/String")) (by decide) (by decide)))).other W43 (Or.inr (slot_ne (Or.inr (hw _ (own_w 55 rfl))) (Or.inr (hw _ (own_w 61 rfl))) (by decide) (t := (.object "java/lang/String")) (t' := (.object "java/lang/String")) (by decide) (by decide))))
  have f71 : Fld Z h58 a1 "com/example/refertario/refertario/store/Episode" "patient" "Ljava/lang/String;" v4 := ((f70.other W50 (Or.inr (slot_ne (Or.inr (hw _ (own_w 55 rfl))) (Or.inr (hw _ (own_w 63 rfl))) (by decide) (t := (.object "java/lang/String")) (t' := (.object "java/lang/String")) (by decide) (by decide)))).other W58 (Or.inr (slot_ne (Or.inr (hw _ (own_w 55 rfl))) (Or.inr (hw _ (own_w 65 rfl))) (by decide) (t := (.object "java/lang/String")) (t' := (.object "com/example/refertario/refertario/store/Episode$Status")) (by decide) (by decide))))
  have f72 := (((fw29.other W36 (Or.inr (slot_ne (Or.inr (hw _ (own_w 57 rfl))) (Or.inr (hw _ (own_w 59 rfl))) (by decide) (t := (.object "java/lang/String")) (t' := (.object "java/lang/String")) (by decide) (by decide)))).other W43 (Or.inr (slot_ne (Or.inr (hw _ (own_w 57 rfl))) (Or.inr (hw _ (own_w 61 rfl))) (by decide) (t := (.object "java/lang/String")) (t' := (.object "java/lang/String")) (by decide) (by decide)))).other W50 (Or.inr (slot_ne (Or.inr (hw _ (own_w 57 rfl))) (Or.inr (hw _ (own_w 63 rfl))) (by decide) (t := (.object "java/lang/String")) (t' := (.object "java/lang/String")) (by decide) (by decide))))
  have f73 : Fld Z h58 a1 "com/example/refertario/refertario/store/Episode" "patientClass" "Ljava/lang/String;" v5 := (f72.other W58 (Or.inr (slot_ne (Or.inr (hw _ (own_w 57 rfl))) (Or.inr (hw _ (own_w 65 rfl))) (by decide) (t := (.object "java/lang/String")) (t' := (.object "com/example/refertario/refertario/store/Episode$Status")) (by decide) (by decide))))
  have f74 : Fld Z h58 a1 "com/example/refertario/refertario/store/Episode" "pointOfCare" "Ljava/lang/String;" v6 := (((fw36.other W43 (Or.inr (slot_ne (Or.inr (hw _ (own_w 59 rfl))) (Or.inr (hw _ (own_w 61 rfl))) (by decide) (t := (.object "java/lang/String")) (t' := (.object "java/lang/String")) (by decide) (by decide)))).other W50 (Or.inr (slot_ne (Or.inr (hw _ (own_w 59 rfl))) (Or.inr (hw _ (own_w 63 rfl))) (by decide) (t := (.object "java/lang/String")) (t' := (.object "java/lang/String")) (by decide) (by decide)))).other W58 (Or.inr (slot_ne (Or.inr (hw _ (own_w 59 rfl))) (Or.inr (hw _ (own_w 65 rfl))) (by decide) (t := (.object "java/lang/String")) (t' := (.object "com/example/refertario/refertario/store/Episode$Status")) (by decide) (by decide))))
  have f75 : Fld Z h58 a1 "com/example/refertario/refertario/store/Episode" "admitted" "Ljava/lang/String;" v7 := ((fw43.other W50 (Or.inr (slot_ne (Or.inr (hw _ (own_w 61 rfl))) (Or.inr (hw _ (own_w 63 rfl))) (by decide) (t := (.object "java/lang/String")) (t' := (.object "java/lang/String")) (by decide) (by decide)))).other W58 (Or.inr (slot_ne (Or.inr (hw _ (own_w 61 rfl))) (Or.inr (hw _ (own_w 65 rfl))) (by decide) (t := (.object "java/lang/String")) (t' := (.object "com/example/refertario/refertario/store/Episode$Status")) (by decide) (by decide))))
  have f76 : Fld Z h58 a1 "com/example/refertario/refertario/store/Episode" "discharged" "Ljava/lang/String;" v8 := (fw50.other W58 (Or.inr (slot_ne (Or.inr (hw _ (own_w 63 rfl))) (Or.inr (hw _ (own_w 65 rfl))) (by decide) (t := (.object "java/lang/String")) (t' := (.object "com/example/refertario/refertario/store/Episode$Status")) (by decide) (by decide))))
  · show Q8 Z a1 v1 v2 v3 v4 v5 v6 v7 v8 v9 h0 n0 _ T58.heap _
    rw [e58]
    exact ⟨rfl, N58, kc60, f62, f65, f67, f69, f71, f73, f74, f75, f76, fw58⟩

theorem d11_0 : decode prog_72_method_8_code 0 = .ok (.aload_n 0, 1) := by decide +kernel
theorem d11_1 : decode prog_72_method_8_code 1 = .ok (.ifnonnull 7, 3) := by decide +kernel
theorem d11_4 : decode prog_72_method_8_code 4 = .ok (.aload_n 1, 1) := by decide +kernel
theorem d11_5 : decode prog_72_method_8_code 5 = .ok (.goto 4, 3) := by decide +kernel
theorem d11_8 : decode prog_72_method_8_code 8 = .ok (.aload_n 0, 1) := by decide +kernel
theorem d11_9 : decode prog_72_method_8_code 9 = .ok (.areturn, 1) := by decide +kernel
theorem pn_11 : plainName "com/example/refertario/refertario/store/Episode" = true := by first | (simp [plainName, overriddenIn]; done) | decide +kernel
theorem ef_11 (m : MethodId) (x0 : Value) (x1 : Value) (y0 : x0.isRef = true) (y1 : x1.isRef = true) : entryFrame m #[x0, x1] 2 = mkF m 0 #[.val x0, .val x1] [] := by first | (simp [entryFrame, mkF, argsToLocals, own_catR, own_catI, own_cat y0, own_cat y1]; done) | rfl
def Q11 (Z : State) (v1 : Value) (v2 : Value) (h0 : Heap) (n0 : Nat) (v : Option Value) (h : Heap) (L : List Loc) : Prop := v = (some (own_given v1 v2)) ∧ Fr n0 L ∧ h = h0
set_option maxRecDepth 65536 in
set_option maxHeartbeats 40000000 in
theorem rm11 (l : Launch) (Z : State) (a0 : Array Value) (hw : ∀ d ∈ tables_1, d.before a0 Z = true) (ws : List Jvm.Cond) (v1 : Value) (v2 : Value) (h0 : Heap) (n0 : Nat) (Z0 : n0 ≤ h0.size) (r_v1 : (v1.isRef = true)) (r_v2 : (v2.isRef = true)) :
    MetFree l (⟨"com/example/refertario/refertario/store/Episode", "given", "(Ljava/lang/String;Ljava/lang/String;)Ljava/lang/String;"⟩ : MethodName) (head1 (Jvm.Cond.code (⟨"com/example/refertario/refertario/store/Episode", "given", "(Ljava/lang/String;Ljava/lang/String;)Ljava/lang/String;"⟩ : MethodName) prog_72_method_8_code 2 (some (.object "java/lang/String")) :: ws) ({ frames := 0, cells := 0, slots := 0, locals := 0 } : Room)) (fun a U => a = #[v1, v2] ∧ Z.Warmed39 U.vm ∧ U.heap = h0) (fun _ _ _ _ _ => True) (fun _ U o U' => ∃ v L, o = .returned v ∧ Q11 Z v1 v2 h0 n0 v U'.heap L ∧ FrameEnd U o U' L ({ frames := 0, cells := 0, slots := 0, locals := 0 } : Room).cells ({ frames := 0, cells := 0, slots := 0, locals := 0 } : Room).slots) := by
  refine MetFree.of_bodySF (plainFor_of_name pn_11) hisR ?_
  intro p e s m args below meth c s₁ Bd hml0 hP hK
  obtain ⟨rfl, hZ, hh⟩ := hP
  have hx := Bd.exec
  have hby := Bd.bytes
  have hml : c.maxLocals = 2 := hml0
  have hown0 := findClass_of_methodNamed Bd.named
  have hown : s.vm.findClass "com/example/refertario/refertario/store/Episode" = some m.cls := hown0
  have hnm := (name_of_methodNamed Bd.named Bd.method).1
  have X0 : Stand p l e ({ frames := 0, cells := 0, slots := 0, locals := 0 } : Room) s m #[v1, v2] below meth c s₁ [] 0 0 := Stand.of_body Bd
  have e0 : s₁.heap = h0 := by rw [← hh, Bd.state]; rfl
  have N0 := Fr.nil n0
  obtain ⟨S0, hS0⟩ : ∃ z, z = s₁.setTop (entryFrame m #[v1, v2] 2) := ⟨_, rfl⟩
  have pre0 : own_Go p e below S0 (s₁.setTop (mkF m 0 #[.val v1, .val v2] [])) := fun t k => by rw [hS0]; exact castTop (ef_11 m v1 v2 r_v1 r_v2) k
  have fin : ∀ t, Steps p.tables e below S0 t → Steps p.tables e below (s₁.setTop (entryFrame m #[v1, v2] 2)) t := fun t k => by rw [hS0] at k; exact k
  have pre3 : own_Go p e below S0 (s₁.setTop (mkF m 1 #[.val v1, .val v2] [v1])) := by
    intro t kt
    refine pre0 t ?_
    refine XS.aloadN X0.here hx rfl (hb hby d11_0) rfl r_v1 ?_
    show Steps p.tables e below (s₁.setTop (mkF m 1 #[.val v1, .val v2] [v1])) _
    exact kt
  obtain hv1 | ⟨av2, hv1⟩ := ref_cases r_v1
  · have pre4 : own_Go p e below S0 (s₁.setTop (mkF m 1 #[.val .null, .val v2] [.null])) := by
      intro t kt
      refine pre3 t ?_
      exact castTop (by rw [hv1]) kt
    have pre5 : own_Go p e below S0 (s₁.setTop (mkF m 9 #[.val .null, .val v2] [v2])) := by
      intro t kt
      refine pre4 t ?_
      refine XS.ifnonnullNo X0.here hx rfl (hb hby d11_1) rfl ?_
      show Steps p.tables e below (s₁.setTop (mkF m 4 #[.val .null, .val v2] [])) _
      refine XS.aloadN X0.here hx rfl (hb hby d11_4) rfl r_v2 ?_
      show Steps p.tables e below (s₁.setTop (mkF m 5 #[.val .null, .val v2] [v2])) _
      refine XS.goto X0.here hx rfl (pc0 := 5) (pc' := 9) rfl (hb hby d11_5) (by decide) (by decide) ?_
      show Steps p.tables e below (s₁.setTop (mkF m 9 #[.val .null, .val v2] [v2])) _
      exact kt
    obtain ⟨fs, hr, hrun, hended, hW, hsame⟩ := X0.leave (v := some v2) (fun h => by rw [Bd.returns] at h; cases h)
    refine ⟨_, _, fin _ (pre5 _ ?_), hrun, hended, _, _, rfl, ?_, ⟨_, rfl⟩, hW, hsame.mono (by decide) (by decide)⟩
    · exact own_retR X0 hx Bd.returns rfl r_v2 (hb hby d11_9) hr
    · show Q11 Z v1 v2 h0 n0 _ s₁.heap _
      rw [e0]
      exact ⟨(by rw [hv1]; rfl), N0, rfl⟩
  · have pre6 : own_Go p e below S0 (s₁.setTop (mkF m 1 #[.val (.ref av2), .val v2] [(.ref av2)])) := by
      intro t kt
      refine pre3 t ?_
      exact castTop (by rw [hv1]) kt
    have pre7 : own_Go p e below S0 (s₁.setTop (mkF m 9 #[.val (.ref av2), .val v2] [(.ref av2)])) := by
      intro t kt
      refine pre6 t ?_
      refine XS.ifnonnullYes X0.here hx rfl (pc0 := 1) (pc' := 8) rfl (hb hby d11_1) rfl (by decide) (by decide) ?_
      show Steps p.tables e below (s₁.setTop (mkF m 8 #[.val (.ref av2), .val v2] [])) _
      refine XS.aloadN X0.here hx rfl (hb hby d11_8) rfl rfl ?_
      show Steps p.tables e below (s₁.setTop (mkF m 9 #[.val (.ref av2), .val v2] [(.ref av2)])) _
      exact kt
    obtain ⟨fs, hr, hrun, hended, hW, hsame⟩ := X0.leave (v := some (.ref av2)) (fun h => by rw [Bd.returns] at h; cases h)
    refine ⟨_, _, fin _ (pre7 _ ?_), hrun, hended, _, _, rfl, ?_, ⟨_, rfl⟩, hW, hsame.mono (by decide) (by decide)⟩
    · jvm_step X0.here [X0.here.top, hx, (hb hby d11_9), X0.method', Bd.returns, Value.isRef, FieldType.isReference]
      first | (intro acts; rw [hr _ acts rfl rfl rfl]) | rw [hr _ _ rfl rfl rfl]
      exact Steps.refl _
    · show Q11 Z v1 v2 h0 n0 _ s₁.heap _
      rw [e0]
      exact ⟨(by rw [hv1]; rfl), N0, rfl⟩

theorem d12_0 : decode prog_72_method_7_code 0 = .ok (.new 8, 3) := by decide +kernel
theorem d12_3 : decode prog_72_method_7_code 3 = .ok (.dup, 1) := by decide +kernel
theorem d12_4 : decode prog_72_method_7_code 4 = .ok (.aload_n 0, 1) := by decide +kernel
theorem d12_5 : decode prog_72_method_7_code 5 = .ok (.getfield 7, 3) := by decide +kernel
theorem d12_8 : decode prog_72_method_7_code 8 = .ok (.aload_n 0, 1) := by decide +kernel
theorem d12_9 : decode prog_72_method_7_code 9 = .ok (.getfield 13, 3) := by decide +kernel
theorem d12_12 : decode prog_72_method_7_code 12 = .ok (.aload_n 1, 1) := by decide +kernel
theorem d12_13 : decode prog_72_method_7_code 13 = .ok (.aload_n 0, 1) := by decide +kernel
theorem d12_14 : decode prog_72_method_7_code 14 = .ok (.getfield 19, 3) := by decide +kernel
theorem d12_17 : decode prog_72_method_7_code 17 = .ok (.aload_n 0, 1) := by decide +kernel
theorem d12_18 : decode prog_72_method_7_code 18 = .ok (.getfield 22, 3) := by decide +kernel
theorem d12_21 : decode prog_72_method_7_code 21 = .ok (.aload_n 2, 1) := by decide +kernel
theorem d12_22 : decode prog_72_method_7_code 22 = .ok (.aload_n 3, 1) := by decide +kernel
theorem d12_23 : decode prog_72_method_7_code 23 = .ok (.aload 4, 2) := by decide +kernel
theorem d12_25 : decode prog_72_method_7_code 25 = .ok (.aload 5, 2) := by decide +kernel
theorem d12_27 : decode prog_72_method_7_code 27 = .ok (.invokespecial 63, 3) := by decide +kernel
theorem d12_30 : decode prog_72_method_7_code 30 = .ok (.areturn, 1) := by decide +kernel
theorem pn_12 : plainName "com/example/refertario/refertario/store/Episode" = true := by first | (simp [plainName, overriddenIn]; done) | decide +kernel
theorem pd_5 : parseMethodDescriptor "(Ljava/lang/String;Ljava/lang/String;Ljava/lang/String;Ljava/lang/String;Ljava/lang/String;Ljava/lang/String;Ljava/lang/String;Ljava/lang/String;Lcom/example/refertario/refertario/store/Episode$Status;)V" = some ⟨[(.object "java/lang/String"), (.object "java/lang/String"), (.object "java/lang/String"), (.object "java/lang/String"), (.object "java/lang/String"), (.object "java/lang/String"), (.object "java/lang/String"), (.object "java/lang/String"), (.object "com/example/refertario/refertario/store/Episode$Status")], none⟩ := by decide +kernel
theorem ef_12 (m : MethodId) (x0 : Addr) (x1 : Value) (x2 : Value) (x3 : Value) (x4 : Value) (x5 : Value) (y1 : x1.isRef = true) (y2 : x2.isRef = true) (y3 : x3.isRef = true) (y4 : x4.isRef = true) (y5 : x5.isRef = true) : entryFrame m #[(.ref x0), x1, x2, x3, x4, x5] 6 = mkF m 0 #[.val (.ref x0), .val x1, .val x2, .val x3, .val x4, .val x5] [] := by first | (simp [entryFrame, mkF, argsToLocals, own_catR, own_catI, own_cat y1, own_cat y2, own_cat y3, own_cat y4, own_cat y5]; done) | rfl
def Q12 (Z : State) (a1 : Addr) (u1 : Value) (u2 : Value) (u3 : Value) (u4 : Value) (u5 : Value) (f0 : Value) (f1 : Value) (f2 : Value) (f3 : Value) (f4 : Value) (f5 : Value) (f6 : Value) (f7 : Value) (f8 : Value) (h0 : Heap) (n0 : Nat) (v : Option Value) (h : Heap) (L : List Loc) : Prop := ∃ b : Addr, v = (some (.ref b)) ∧ Fr n0 L ∧ Keep h0 h [] ∧ h0.size ≤ b ∧ Exa Z h b "com/example/refertario/refertario/store/Episode" ∧ Fld Z h b "com/example/refertario/refertario/store/Episode" "application" "Ljava/lang/String;" f0 ∧ Fld Z h b "com/example/refertario/refertario/store/Episode" "id" "Ljava/lang/String;" f1 ∧ Fld Z h b "com/example/refertario/refertario/store/Episode" "idType" "Ljava/lang/String;" u1 ∧ Fld Z h b "com/example/refertario/refertario/store/Episode" "patient" "Ljava/lang/String;" f3 ∧ Fld Z h b "com/example/refertario/refertario/store/Episode" "patientClass" "Ljava/lang/String;" f4 ∧ Fld Z h b "com/example/refertario/refertario/store/Episode" "pointOfCare" "Ljava/lang/String;" u2 ∧ Fld Z h b "com/example/refertario/refertario/store/Episode" "admitted" "Ljava/lang/String;" u3 ∧ Fld Z h b "com/example/refertario/refertario/store/Episode" "discharged" "Ljava/lang/String;" u4 ∧ Fld Z h b "com/example/refertario/refertario/store/Episode" "status" "Lcom/example/refertario/refertario/store/Episode$Status;" u5
set_option maxRecDepth 65536 in
set_option maxHeartbeats 40000000 in
theorem rm12 (l : Launch) (Z : State) (a0 : Array Value) (hw : ∀ d ∈ tables_1, d.before a0 Z = true) (ws : List Jvm.Cond) (a1 : Addr) (u1 : Value) (u2 : Value) (u3 : Value) (u4 : Value) (u5 : Value) (f0 : Value) (f1 : Value) (f2 : Value) (f3 : Value) (f4 : Value) (f5 : Value) (f6 : Value) (f7 : Value) (f8 : Value) (h0 : Heap) (n0 : Nat) (Z0 : n0 ≤ h0.size) (r_u1 : (u1.isRef = true)) (r_u2 : (u2.isRef = true)) (r_u3 : (u3.isRef = true)) (r_u4 : (u4.isRef = true)) (r_u5 : (u5.isRef = true)) (r_f0 : (f0.isRef = true)) (r_f1 : (f1.isRef = true)) (r_f2 : (f2.isRef = true)) (r_f3 : (f3.isRef = true)) (r_f4 : (f4.isRef = true)) (r_f5 : (f5.isRef = true)) (r_f6 : (f6.isRef = true)) (r_f7 : (f7.isRef = true)) (r_f8 : (f8.isRef = true)) (xE1 : Exa Z h0 a1 "com/example/refertario/refertario/store/Episode") (F_0 : Fld Z h0 a1 "com/example/refertario/refertario/store/Episode" "application" "Ljava/lang/String;" f0) (F_1 : Fld Z h0 a1 "com/example/refertario/refertario/store/Episode" "id" "Ljava/lang/String;" f1) (F_2 : Fld Z h0 a1 "com/example/refertario/refertario/store/Episode" "idType" "Ljava/lang/String;" f2) (F_3 : Fld Z h0 a1 "com/example/refertario/refertario/store/Episode" "patient" "Ljava/lang/String;" f3) (F_4 : Fld Z h0 a1 "com/example/refertario/refertario/store/Episode" "patientClass" "Ljava/lang/String;" f4) (F_5 : Fld Z h0 a1 "com/example/refertario/refertario/store/Episode" "pointOfCare" "Ljava/lang/String;" f5) (F_6 : Fld Z h0 a1 "com/example/refertario/refertario/store/Episode" "admitted" "Ljava/lang/String;" f6) (F_7 : Fld Z h0 a1 "com/example/refertario/refertario/store/Episode" "discharged" "Ljava/lang/String;" f7) (F_8 : Fld Z h0 a1 "com/example/refertario/refertario/store/Episode" "status" "Lcom/example/refertario/refertario/store/Episode$Status;" f8) :
    MetFree l (⟨"com/example/refertario/refertario/store/Episode", "with", "(Ljava/lang/String;Ljava/lang/String;Ljava/lang/String;Ljava/lang/String;Lcom/example/refertario/refertario/store/Episode$Status;)Lcom/example/refertario/refertario/store/Episode;"⟩ : MethodName) (head1 (Jvm.Cond.code (⟨"com/example/refertario/refertario/store/Episode", "with", "(Ljava/lang/String;Ljava/lang/String;Ljava/lang/String;Ljava/lang/String;Lcom/example/refertario/refertario/store/Episode$Status;)Lcom/example/refertario/refertario/store/Episode;"⟩ : MethodName) prog_72_method_7_code 6 (some (.object "com/example/refertario/refertario/store/Episode")) :: ws) ({ frames := 3, cells := 1, slots := 9, locals := 46 } : Room)) (fun a U => a = #[(.ref a1), u1, u2, u3, u4, u5] ∧ Z.Warmed39 U.vm ∧ U.heap = h0) (fun _ _ _ _ _ => True) (fun _ U o U' => ∃ v L, o = .returned v ∧ Q12 Z a1 u1 u2 u3 u4 u5 f0 f1 f2 f3 f4 f5 f6 f7 f8 h0 n0 v U'.heap L ∧ FrameEnd U o U' L ({ frames := 3, cells := 1, slots := 9, locals := 46 } : Room).cells ({ frames := 3, cells := 1, slots := 9, locals := 46 } : Room).slots) := by
  refine MetFree.of_bodySF (plainFor_of_name pn_12) hisR ?_
  intro p e s m args below meth c s₁ Bd hml0 hP hK
  obtain ⟨rfl, hZ, hh⟩ := hP
  have hx := Bd.exec
  have hby := Bd.bytes
  have hml : c.maxLocals = 6 := hml0
  have hown0 := findClass_of_methodNamed Bd.named
  have hown : s.vm.findClass "com/example/refertario/refertario/store/Episode" = some m.cls := hown0
  have hnm := (name_of_methodNamed Bd.named Bd.method).1
  have X0 : Stand p l e ({ frames := 3, cells := 1, slots := 9, locals := 46 } : Room) s m #[(.ref a1), u1, u2, u3, u4, u5] below meth c s₁ [] 0 0 := Stand.of_body Bd
  have e0 : s₁.heap = h0 := by rw [← hh, Bd.state]; rfl
  have N0 := Fr.nil n0
  obtain ⟨S0, hS0⟩ : ∃ z, z = s₁.setTop (entryFrame m #[(.ref a1), u1, u2, u3, u4, u5] 6) := ⟨_, rfl⟩
  have pre0 : own_Go p e below S0 (s₁.setTop (mkF m 0 #[.val (.ref a1), .val u1, .val u2, .val u3, .val u4, .val u5] [])) := fun t k => by rw [hS0]; exact castTop (ef_12 m a1 u1 u2 u3 u4 u5 r_u1 r_u2 r_u3 r_u4 r_u5) k
  have fin : ∀ t, Steps p.tables e below S0 t → Steps p.tables e below (s₁.setTop (entryFrame m #[(.ref a1), u1, u2, u3, u4, u5] 6)) t := fun t k => by rw [hS0] at k; exact k
  have kc0 : Keep h0 h0 [] := Keep.refl _ _
  obtain ⟨T1, h1, X1, e1, E1, A1, D1, -, st1⟩ := newO X0 hx hZ hown (hw _ (own_w 78 rfl)) (hw _ (own_w 37 rfl)) (hw _ (own_w 38 rfl)) e0 (g := (mkF m 0 #[.val (.ref a1), .val u1, .val u2, .val u3, .val u4, .val u5] [])) rfl (hb hby d12_0) (by decide) (by decide)
  obtain ⟨b1, g1⟩ : ∃ z, z = h0.size := ⟨_, rfl⟩
  rw [← g1] at A1 D1 st1
  have ne2 : a1 ≠ b1 := Nat.ne_of_lt (Nat.lt_of_lt_of_le xE1.lt (Nat.le_of_eq g1.symm))
  have ge3 : n0 ≤ b1 := Nat.le_trans Z0 (Nat.le_of_eq g1.symm)
  have sz4 : h0.size ≤ b1 := Nat.le_trans kc0.1 (Nat.le_of_eq g1.symm)
  have zs5 : n0 ≤ h1.size := Nat.le_trans Z0 E1.1
  have kc6 : Keep h0 h1 [] := kc0.ext E1
  have fd7 : Fld Z h1 b1 "com/example/refertario/refertario/store/Episode" "application" "Ljava/lang/String;" .null := D1 (Or.inr (hw _ (own_w 49 rfl))) (ty := (.object "java/lang/String")) (by decide)
  have fd8 : Fld Z h1 b1 "com/example/refertario/refertario/store/Episode" "id" "Ljava/lang/String;" .null := D1 (Or.inr (hw _ (own_w 51 rfl))) (ty := (.object "java/lang/String")) (by decide)
  have fd9 : Fld Z h1 b1 "com/example/refertario/refertario/store/Episode" "idType" "Ljava/lang/String;" .null := D1 (Or.inr (hw _ (own_w 53 rfl))) (ty := (.object "java/lang/String")) (by decide)
  have fd10 : Fld Z h1 b1 "com/example/refertario/refertario/store/Episode" "patient" "Ljava/lang/String;" .null := D1 (Or.inr (hw _ (own_w 55 rfl))) (ty := (.object "java/lang/String")) (by decide)
  have fd11 : Fld Z h1 b1 "com/example/refertario/refertario/store/Episode" "patientClass" "Ljava/lang/String;" .null := D1 (Or.inr (hw _ (own_w 57 rfl))) (ty := (.object "java/lang/String")) (by decide)
  have fd12 : Fld Z h1 b1 "com/example/refertario/refertario/store/Episode" "pointOfCare" "Ljava/lang/String;" .null := D1 (Or.inr (hw _ (own_w 59 rfl))) (ty := (.object "java/lang/String")) (by decide)
  have fd13 : Fld Z h1 b1 "com/example/refertario/refertario/store/Episode" "admitted" "Ljava/lang/String;" .null := D1 (Or.inr (hw _ (own_w 61 rfl))) (ty := (.object "java/lang/String")) (by decide)
  have fd14 : Fld Z h1 b1 "com/example/refertario/refertario/store/Episode" "discharged" "Ljava/lang/String;" .null := D1 (Or.inr (hw _ (own_w 63 rfl))) (ty := (.object "java/lang/String")) (by decide)
  have fd15 : Fld Z h1 b1 "com/example/refertario/refertario/store/Episode" "status" "Lcom/example/refertario/refertario/store/Episode$Status;" .null := D1 (Or.inr (hw _ (own_w 65 rfl))) (ty := (.object "com/example/refertario/refertario/store/Episode$Status")) (by decide)
  have pre16 : own_Go p e below S0 (T1.setTop (mkF m 5 #[.val (.ref a1), .val u1, .val u2, .val u3, .val u4, .val u5] [(.ref a1), (.ref b1), (.ref b1)])) := by
    intro t kt
    refine pre0 t ?_
    refine st1 _ ?_
    show Steps p.tables e below (T1.setTop (mkF m 3 #[.val (.ref a1), .val u1, .val u2, .val u3, .val u4, .val u5] [(.ref b1)])) _
    refine XS.dup X1.here hx rfl (hb hby d12_3) rfl rfl ?_
    show Steps p.tables e below (T1.setTop (mkF m 4 #[.val (.ref a1), .val u1, .val u2, .val u3, .val u4, .val u5] [(.ref b1), (.ref b1)])) _
    refine XS.aloadN X1.here hx rfl (hb hby d12_4) rfl rfl ?_
    show Steps p.tables e below (T1.setTop (mkF m 5 #[.val (.ref a1), .val u1, .val u2, .val u3, .val u4, .val u5] [(.ref a1), (.ref b1), (.ref b1)])) _
    exact kt
  have f17 : Fld Z h1 a1 "com/example/refertario/refertario/store/Episode" "application" "Ljava/lang/String;" f0 := (F_0.ext E1)
  obtain ⟨T18, X18, e18, st18⟩ := getF X1 hx hZ hown (host := "") (Or.inl (hw _ (own_w 48 rfl))) Via.refl e1 f17 (g := (mkF m 5 #[.val (.ref a1), .val u1, .val u2, .val u3, .val u4, .val u5] [(.ref a1), (.ref b1), (.ref b1)])) rfl rfl (hb hby d12_5)
  have pre19 : own_Go p e below S0 (T18.setTop (mkF m 9 #[.val (.ref a1), .val u1, .val u2, .val u3, .val u4, .val u5] [(.ref a1), f0, (.ref b1), (.ref b1)])) := by
    intro t kt
    refine pre16 t ?_
    refine st18 _ ?_
    show Steps p.tables e below (T18.setTop (mkF m 8 #[.val (.ref a1), .val u1, .val u2, .val u3, .val u4, .val u5] [f0, (.ref b1), (.ref b1)])) _
    refine XS.aloadN X18.here hx rfl (hb hby d12_8) rfl rfl ?_
    show Steps p.tables e below (T18.setTop (mkF m 9 #[.val (.ref a1), .val u1, .val u2, .val u3, .val u4, .val u5] [(.ref a1), f0, (.ref b1), (.ref b1)])) _
    exact kt
  have f20 : Fld Z h1 a1 "com/example/refertario/refertario/store/Episode" "id" "Ljava/lang/String;" f1 := (F_1.ext E1)
  obtain ⟨T21, X21, e21, st21⟩ := getF X18 hx hZ hown (host := "") (Or.inl (hw _ (own_w 50 rfl))) Via.refl e18 f20 (g := (mkF m 9 #[.val (.ref a1), .val u1, .val u2, .val u3, .val u4, .val u5] [(.ref a1), f0, (.ref b1), (.ref b1)])) rfl rfl (hb hby d12_9)
  have pre22 : own_Go p e below S0 (T21.setTop (mkF m 14 #[.val (.ref a1), .val u1, .val u2, .val u3, .val u4, .val u5] [(.ref a1), u1, f1, f0, (.ref b1), (.ref b1)])) := by
    intro t kt
    refine pre19 t ?_
    refine st21 _ ?_
    show Steps p.tables e below (T21.setTop (mkF m 12 #[.val (.ref a1), .val u1, .val u2, .val u3, .val u4, .val u5] [f1, f0, (.ref b1), (.ref b1)])) _
    refine XS.aloadN X21.here hx rfl (hb hby d12_12) rfl r_u1 ?_
    show Steps p.tables e below (T21.setTop (mkF m 13 #[.val (.ref a1), .val u1, .val u2, .val u3, .val u4, .val u5] [u1, f1, f0, (.ref b1), (.ref b1)])) _
    refine XS.aloadN X21.here hx rfl (hb hby d12_13) rfl rfl ?_
    show Steps p.tables e below (T21.setTop (mkF m 14 #[.val (.ref a1), .val u1, .val u2, .val u3, .val u4, .val u5] [(.ref a1), u1, f1, f0, (.ref b1), (.ref b1)])) _
    exact kt
  have f23 : Fld Z h1 a1 "com/example/refertario/refertario/store/Episode" "patient" "Ljava/lang/String;" f3 := (F_3.ext E1)
  obtain ⟨T24, X24, e24, st24⟩ := getF X21 hx hZ hown (host := "") (Or.inl (hw _ (own_w 54 rfl))) Via.refl e21 f23 (g := (mkF m 14 #[.val (.ref a1), .val u1, .val u2, .val u3, .val u4, .val u5] [(.ref a1), u1, f1, f0, (.ref b1), (.ref b1)])) rfl rfl (hb hby d12_14)
  have pre25 : own_Go p e below S0 (T24.setTop (mkF m 18 #[.val (.ref a1), .val u1, .val u2, .val u3, .val u4, .val u5] [(.ref a1), f3, u1, f1, f0, (.ref b1), (.ref b1)])) := by
    intro t kt
    refine pre22 t ?_
    refine st24 _ ?_
    show Steps p.tables e below (T24.setTop (mkF m 17 #[.val (.ref a1), .val u1, .val u2, .val u3, .val u4, .val u5] [f3, u1, f1, f0, (.ref b1), (.ref b1)])) _
    refine XS.aloadN X24.here hx rfl (hb hby d12_17) rfl rfl ?_
    show Steps p.tables e below (T24.setTop (mkF m 18 #[.val (.ref a1), .val u1, .val u2, .val u3, .val u4, .val u5] [(.ref a1), f3, u1, f1, f0, (.ref b1), (.ref b1)])) _
    exact kt
  have f26 : Fld Z h1 a1 "com/example/refertario/refertario/store/Episode" "patientClass" "Ljava/lang/String;" f4 := (F_4.ext E1)
  obtain ⟨T27, X27, e27, st27⟩ := getF X24 hx hZ hown (host := "") (Or.inl (hw _ (own_w 56 rfl))) Via.refl e24 f26 (g := (mkF m 18 #[.val (.ref a1), .val u1, .val u2, .val u3, .val u4, .val u5] [(.ref a1), f3, u1, f1, f0, (.ref b1), (.ref b1)])) rfl rfl (hb hby d12_18)
  have pre28 : own_Go p e below S0 (T27.setTop (mkF m 27 #[.val (.ref a1), .val u1, .val u2, .val u3, .val u4, .val u5] [u5, u4, u3, u2, f4, f3, u1, f1, f0, (.ref b1), (.ref b1)])) := by
    intro t kt
    refine pre25 t ?_
    refine st27 _ ?_
    show Steps p.tables e below (T27.setTop (mkF m 21 #[.val (.ref a1), .val u1, .val u2, .val u3, .val u4, .val u5] [f4, f3, u1, f1, f0, (.ref b1), (.ref b1)])) _
    refine XS.aloadN X27.here hx rfl (hb hby d12_21) rfl r_u2 ?_
    show Steps p.tables e below (T27.setTop (mkF m 22 #[.val (.ref a1), .val u1, .val u2, .val u3, .val u4, .val u5] [u2, f4, f3, u1, f1, f0, (.ref b1), (.ref b1)])) _
    refine XS.aloadN X27.here hx rfl (hb hby d12_22) rfl r_u3 ?_
    show Steps p.tables e below (T27.setTop (mkF m 23 #[.val (.ref a1), .val u1, .val u2, .val u3, .val u4, .val u5] [u3, u2, f4, f3, u1, f1, f0, (.ref b1), (.ref b1)])) _
    refine XS.aload X27.here hx rfl (hb hby d12_23) rfl r_u4 ?_
    show Steps p.tables e below (T27.setTop (mkF m 25 #[.val (.ref a1), .val u1, .val u2, .val u3, .val u4, .val u5] [u4, u3, u2, f4, f3, u1, f1, f0, (.ref b1), (.ref b1)])) _
    refine XS.aload X27.here hx rfl (hb hby d12_25) rfl r_u5 ?_
    show Steps p.tables e below (T27.setTop (mkF m 27 #[.val (.ref a1), .val u1, .val u2, .val u3, .val u4, .val u5] [u5, u4, u3, u2, f4, f3, u1, f1, f0, (.ref b1), (.ref b1)])) _
    exact kt
  obtain ⟨_, _, ⟨T29, L29, k29, n29⟩, -, X29, ⟨Lc29, hQ29, l29, y29, z29⟩, st29⟩ := X27.specialBack hx (y := (⟨"com/example/refertario/refertario/store/Episode", "<init>", "(Ljava/lang/String;Ljava/lang/String;Ljava/lang/String;Ljava/lang/String;Ljava/lang/String;Ljava/lang/String;Ljava/lang/String;Ljava/lang/String;Lcom/example/refertario/refertario/store/Episode$Status;)V"⟩ : MethodName)) rfl hown (mvT hZ (hw _ (own_w 79 rfl))) (mvT hZ (hw _ (own_w 40 rfl))) (mvT hZ (hw _ (own_w 41 rfl))) (by decide) (backOf (W := 1) (rm8 l Z a0 hw [] b1 f0 f1 u1 f3 f4 u2 u3 u4 u5 h1 n0 zs5 r_f0 r_f1 r_u1 r_f3 r_f4 r_u2 r_u3 r_u4 r_u5 A1 ge3 fd7 fd8 fd9 fd10 fd11 fd12 fd13 fd14 fd15) hZ (hw _ (own_w 41 rfl)) (hw _ (own_w 38 rfl)) (by decide) (by decide)) (g := (mkF m 27 #[.val (.ref a1), .val u1, .val u2, .val u3, .val u4, .val u5] [u5, u4, u3, u2, f4, f3, u1, f1, f0, (.ref b1), (.ref b1)])) rfl (by rw [hml]; rfl) (Steps.refl _) (a := b1) (argsL := [f0, f1, u1, f3, f4, u2, u3, u4, u5]) (rest := [(.ref b1)]) (lenOf pd_5 rfl) rfl (by show 2 * 0 + _ ≤ _; exact Nat.le_of_eq rfl) (hb hby d12_27) (fun _ _ => ⟨rfl, e27, (by decide : 1 + 0 ≤ _), (by decide : 9 + 0 ≤ _)⟩)
  dsimp only [Pt.U, Pt.locs, Pt.cells, Pt.slots] at X29 l29 y29 z29 st29 hQ29
  subst l29 y29 z29
  obtain ⟨rfl, Nq29, K29, g30, g31, g32, g33, g34, g35, g36, g37, g38, g39⟩ := hQ29
  have N29 := Fr.app N0 Nq29
  have zs40 : n0 ≤ T29.heap.size := Nat.le_trans zs5 K29.1
  have kc41 : Keep h0 T29.heap [] := kc6.trans K29 (allS (Or.inr sz4) all0)
  have pre42 : own_Go p e below S0 (T29.setTop (mkF m 30 #[.val (.ref a1), .val u1, .val u2, .val u3, .val u4, .val u5] [(.ref b1)])) := by
    intro t kt
    refine pre28 t ?_
    refine st29.trans ?_
    show Steps p.tables e below (T29.setTop (mkF m 30 #[.val (.ref a1), .val u1, .val u2, .val u3, .val u4, .val u5] [(.ref b1)])) _
    exact kt
  obtain ⟨fs, hr, hrun, hended, hW, hsame⟩ := X29.leave (v := some (.ref b1)) (fun h => by rw [Bd.returns] at h; cases h)
  refine ⟨_, _, fin _ (pre42 _ ?_), hrun, hended, _, _, rfl, ?_, ⟨_, rfl⟩, hW, hsame.mono (by decide) (by decide)⟩
  · jvm_step X29.here [X29.here.top, hx, (hb hby d12_30), X29.method', Bd.returns, Value.isRef, FieldType.isReference]
    first | (intro acts; rw [hr _ acts rfl rfl rfl]) | rw [hr _ _ rfl rfl rfl]
    exact Steps.refl _
  · show Q12 Z a1 u1 u2 u3 u4 u5 f0 f1 f2 f3 f4 f5 f6 f7 f8 h0 n0 _ T29.heap _
    exact ⟨b1, rfl, N29, kc41, sz4, g30, g31, g32, g33, g34, g35, g36, g37, g38, g39⟩

theorem d10_0 : decode prog_72_method_3_code 0 = .ok (.aload_n 0, 1) := by decide +kernel
theorem d10_1 : decode prog_72_method_3_code 1 = .ok (.aload_n 1, 1) := by decide +kernel
theorem d10_2 : decode prog_72_method_3_code 2 = .ok (.getfield 16, 3) := by decide +kernel
theorem d10_5 : decode prog_72_method_3_code 5 = .ok (.aload_n 0, 1) := by decide +kernel
theorem d10_6 : decode prog_72_method_3_code 6 = .ok (.getfield 16, 3) := by decide +kernel
theorem d10_9 : decode prog_72_method_3_code 9 = .ok (.invokestatic 47, 3) := by decide +kernel
theorem d10_12 : decode prog_72_method_3_code 12 = .ok (.aload_n 1, 1) := by decide +kernel
theorem d10_13 : decode prog_72_method_3_code 13 = .ok (.getfield 25, 3) := by decide +kernel
theorem d10_16 : decode prog_72_method_3_code 16 = .ok (.aload_n 0, 1) := by decide +kernel
theorem d10_17 : decode prog_72_method_3_code 17 = .ok (.getfield 25, 3) := by decide +kernel
theorem d10_20 : decode prog_72_method_3_code 20 = .ok (.invokestatic 47, 3) := by decide +kernel
theorem d10_23 : decode prog_72_method_3_code 23 = .ok (.aload_n 1, 1) := by decide +kernel
theorem d10_24 : decode prog_72_method_3_code 24 = .ok (.getfield 28, 3) := by decide +kernel
theorem d10_27 : decode prog_72_method_3_code 27 = .ok (.aload_n 0, 1) := by decide +kernel
theorem d10_28 : decode prog_72_method_3_code 28 = .ok (.getfield 28, 3) := by decide +kernel
theorem d10_31 : decode prog_72_method_3_code 31 = .ok (.invokestatic 47, 3) := by decide +kernel
theorem d10_34 : decode prog_72_method_3_code 34 = .ok (.aload_n 0, 1) := by decide +kernel
theorem d10_35 : decode prog_72_method_3_code 35 = .ok (.getfield 31, 3) := by decide +kernel
theorem d10_38 : decode prog_72_method_3_code 38 = .ok (.aload_n 0, 1) := by decide +kernel
theorem d10_39 : decode prog_72_method_3_code 39 = .ok (.getfield 34, 3) := by decide +kernel
theorem d10_42 : decode prog_72_method_3_code 42 = .ok (.invokevirtual 43, 3) := by decide +kernel
theorem d10_45 : decode prog_72_method_3_code 45 = .ok (.areturn, 1) := by decide +kernel
theorem pn_10 : plainName "com/example/refertario/refertario/store/Episode" = true := by first | (simp [plainName, overriddenIn]; done) | decide +kernel
theorem pd_6 : parseMethodDescriptor "(Ljava/lang/String;Ljava/lang/String;)Ljava/lang/String;" = some ⟨[(.object "java/lang/String"), (.object "java/lang/String")], some (.object "java/lang/String")⟩ := by decide +kernel
theorem pd_7 : parseMethodDescriptor "(Ljava/lang/String;Ljava/lang/String;Ljava/lang/String;Ljava/lang/String;Lcom/example/refertario/refertario/store/Episode$Status;)Lcom/example/refertario/refertario/store/Episode;" = some ⟨[(.object "java/lang/String"), (.object "java/lang/String"), (.object "java/lang/String"), (.object "java/lang/String"), (.object "com/example/refertario/refertario/store/Episode$Status")], some (.object "com/example/refertario/refertario/store/Episode")⟩ := by decide +kernel
theorem ef_10 (m : MethodId) (x0 : Addr) (x1 : Addr) : entryFrame m #[(.ref x0), (.ref x1)] 2 = mkF m 0 #[.val (.ref x0), .val (.ref x1)] [] := by first | (simp [entryFrame, mkF, argsToLocals, Value.category]; done) | rfl
def Q10 (Z : State) (a1 : Addr) (a2 : Addr) (f0 : Value) (f1 : Value) (f2 : Value) (f3 : Value) (f4 : Value) (f5 : Value) (f6 : Value) (f7 : Value) (f8 : Value) (g0 : Value) (g1 : Value) (g2 : Value) (g3 : Value) (g4 : Value) (g5 : Value) (g6 : Value) (g7 : Value) (g8 : Value) (h0 : Heap) (n0 : Nat) (v : Option Value) (h : Heap) (L : List Loc) : Prop := ∃ b : Addr, v = (some (.ref b)) ∧ Fr n0 L ∧ Keep h0 h [] ∧ h0.size ≤ b ∧ Exa Z h b "com/example/refertario/refertario/store/Episode" ∧ Fld Z h b "com/example/refertario/refertario/store/Episode" "application" "Ljava/lang/String;" f0 ∧ Fld Z h b "com/example/refertario/refertario/store/Episode" "id" "Ljava/lang/String;" f1 ∧ Fld Z h b "com/example/refertario/refertario/store/Episode" "idType" "Ljava/lang/String;" (own_given g2 f2) ∧ Fld Z h b "com/example/refertario/refertario/store/Episode" "patient" "Ljava/lang/String;" f3 ∧ Fld Z h b "com/example/refertario/refertario/store/Episode" "patientClass" "Ljava/lang/String;" f4 ∧ Fld Z h b "com/example/refertario/refertario/store/Episode" "pointOfCare" "Ljava/lang/String;" (own_given g5 f5) ∧ Fld Z h b "com/example/refertario/refertario/store/Episode" "admitted" "Ljava/lang/String;" (own_given g6 f6) ∧ Fld Z h b "com/example/refertario/refertario/store/Episode" "discharged" "Ljava/lang/String;" f7 ∧ Fld Z h b "com/example/refertario/refertario/store/Episode" "status" "Lcom/example/refertario/refertario/store/Episode$Status;" f8
set_option maxRecDepth 65536 in
set_option maxHeartbeats 40000000 in
theorem rm10 (l : Launch) (Z : State) (a0 : Array Value) (hw : ∀ d ∈ tables_1, d.before a0 Z = true) (ws : List Jvm.Cond) (a1 : Addr) (a2 : Addr) (f0 : Value) (f1 : Value) (f2 : Value) (f3 : Value) (f4 : Value) (f5 : Value) (f6 : Value) (f7 : Value) (f8 : Value) (g0 : Value) (g1 : Value) (g2 : Value) (g3 : Value) (g4 : Value) (g5 : Value) (g6 : Value) (g7 : Value) (g8 : Value) (h0 : Heap) (n0 : Nat) (Z0 : n0 ≤ h0.size) (r_f0 : (f0.isRef = true)) (r_f1 : (f1.isRef = true)) (r_f2 : (f2.isRef = true)) (r_f3 : (f3.isRef = true)) (r_f4 : (f4.isRef = true)) (r_f5 : (f5.isRef = true)) (r_f6 : (f6.isRef = true)) (r_f7 : (f7.isRef = true)) (r_f8 : (f8.isRef = true)) (r_g0 : (g0.isRef = true)) (r_g1 : (g1.isRef = true)) (r_g2 : (g2.isRef = true)) (r_g3 : (g3.isRef = true)) (r_g4 : (g4.isRef = true)) (r_g5 : (g5.isRef = true)) (r_g6 : (g6.isRef = true)) (r_g7 : (g7.isRef = true)) (r_g8 : (g8.isRef = true)) (xE1 : Exa Z h0 a1 "com/example/refertario/refertario/store/Episode") (F_0 : Fld Z h0 a1 "com/example/refertario/refertario/store/Episode" "application" "Ljava/lang/String;" f0) (F_1 : Fld Z h0 a1 "com/example/refertario/refertario/store/Episode" "id" "Ljava/lang/String;" f1) (F_2 : Fld Z h0 a1 "com/example/refertario/refertario/store/Episode" "idType" "Ljava/lang/String;" f2) (F_3 : Fld Z h0 a1 "com/example/refertario/refertario/store/Episode" "patient" "Ljava/lang/String;" f3) (F_4 : Fld Z h0 a1 "com/example/refertario/refertario/store/Episode" "patientClass" "Ljava/lang/String;" f4) (F_5 : Fld Z h0 a1 "com/example/refertario/refertario/store/Episode" "pointOfCare" "Ljava/lang/String;" f5) (F_6 : Fld Z h0 a1 "com/example/refertario/refertario/store/Episode" "admitted" "Ljava/lang/String;" f6) (F_7 : Fld Z h0 a1 "com/example/refertario/refertario/store/Episode" "discharged" "Ljava/lang/String;" f7) (F_8 : Fld Z h0 a1 "com/example/refertario/refertario/store/Episode" "status" "Lcom/example/refertario/refertario/store/Episode$Status;" f8) (G_0 : Fld Z h0 a2 "com/example/refertario/refertario/store/Episode" "application" "Ljava/lang/String;" g0) (G_1 : Fld Z h0 a2 "com/example/refertario/refertario/store/Episode" "id" "Ljava/lang/String;" g1) (G_2 : Fld Z h0 a2 "com/example/refertario/refertario/store/Episode" "idType" "Ljava/lang/String;" g2) (G_3 : Fld Z h0 a2 "com/example/refertario/refertario/store/Episode" "patient" "Ljava/lang/String;" g3) (G_4 : Fld Z h0 a2 "com/example/refertario/refertario/store/Episode" "patientClass" "Ljava/lang/String;" g4) (G_5 : Fld Z h0 a2 "com/example/refertario/refertario/store/Episode" "pointOfCare" "Ljava/lang/String;" g5) (G_6 : Fld Z h0 a2 "com/example/refertario/refertario/store/Episode" "admitted" "Ljava/lang/String;" g6) (G_7 : Fld Z h0 a2 "com/example/refertario/refertario/store/Episode" "discharged" "Ljava/lang/String;" g7) (G_8 : Fld Z h0 a2 "com/example/refertario/refertario/store/Episode" "status" "Lcom/example/refertario/refertario/store/Episode$Status;" g8) :
    MetFree l (⟨"com/example/refertario/refertario/store/Episode", "admittedAs", "(Lcom/example/refertario/refertario/store/Episode;)Lcom/example/refertario/refertario/store/Episode;"⟩ : MethodName) (head1 (Jvm.Cond.code (⟨"com/example/refertario/refertario/store/Episode", "admittedAs", "(Lcom/example/refertario/refertario/store/Episode;)Lcom/example/refertario/refertario/store/Episode;"⟩ : MethodName) prog_72_method_3_code 2 (some (.object "com/example/refertario/refertario/store/Episode")) :: ws) ({ frames := 4, cells := 1, slots := 9, locals := 63 } : Room)) (fun a U => a = #[(.ref a1), (.ref a2)] ∧ Z.Warmed39 U.vm ∧ U.heap = h0) (fun _ _ _ _ _ => True) (fun _ U o U' => ∃ v L, o = .returned v ∧ Q10 Z a1 a2 f0 f1 f2 f3 f4 f5 f6 f7 f8 g0 g1 g2 g3 g4 g5 g6 g7 g8 h0 n0 v U'.heap L ∧ FrameEnd U o U' L ({ frames := 4, cells := 1, slots := 9, locals := 63 } : Room).cells ({ frames := 4, cells := 1, slots := 9, locals := 63 } : Room).slots) := by
  refine MetFree.of_bodySF (plainFor_of_name pn_10) hisR ?_
  intro p e s m args below meth c s₁ Bd hml0 hP hK
  obtain ⟨rfl, hZ, hh⟩ := hP
  have hx := Bd.exec
  have hby := Bd.bytes
  have hml : c.maxLocals = 2 := hml0
  have hown0 := findClass_of_methodNamed Bd.named
  have hown : s.vm.findClass "com/example/refertario/refertario/store/Episode" = some m.cls := hown0
  have hnm := (name_of_methodNamed Bd.named Bd.method).1
  have X0 : Stand p l e ({ frames := 4, cells := 1, slots := 9, locals := 63 } : Room) s m #[(.ref a1), (.ref a2)] below meth c s₁ [] 0 0 := Stand.of_body Bd
  have e0 : s₁.heap = h0 := by rw [← hh, Bd.state]; rfl
  have N0 := Fr.nil n0
  obtain ⟨S0, hS0⟩ : ∃ z, z = s₁.setTop (entryFrame m #[(.ref a1), (.ref a2)] 2) := ⟨_, rfl⟩
  have pre0 : own_Go p e below S0 (s₁.setTop (mkF m 0 #[.val (.ref a1), .val (.ref a2)] [])) := fun t k => by rw [hS0]; exact castTop (ef_10 m a1 a2) k
  have fin : ∀ t, Steps p.tables e below S0 t → Steps p.tables e below (s₁.setTop (entryFrame m #[(.ref a1), (.ref a2)] 2)) t := fun t k => by rw [hS0] at k; exact k
  have kc0 : Keep h0 h0 [] := Keep.refl _ _
  have pre1 : own_Go p e below S0 (s₁.setTop (mkF m 2 #[.val (.ref a1), .val (.ref a2)] [(.ref a2), (.ref a1)])) := by
    intro t kt
    refine pre0 t ?_
    refine XS.aloadN X0.here hx rfl (hb hby d10_0) rfl rfl ?_
    show Steps p.tables e below (s₁.setTop (mkF m 1 #[.val (.ref a1), .val (.ref a2)] [(.ref a1)])) _
    refine XS.aloadN X0.here hx rfl (hb hby d10_1) rfl rfl ?_
    show Steps p.tables e below (s₁.setTop (mkF m 2 #[.val (.ref a1), .val (.ref a2)] [(.ref a2), (.ref a1)])) _
    exact kt
  obtain ⟨T2, X2, e2, st2⟩ := getF X0 hx hZ hown (host := "") (Or.inl (hw _ (own_w 52 rfl))) Via.refl e0 G_2 (g := (mkF m 2 #[.val (.ref a1), .val (.ref a2)] [(.ref a2), (.ref a1)])) rfl rfl (hb hby d10_2)
  have pre3 : own_Go p e below S0 (T2.setTop (mkF m 6 #[.val (.ref a1), .val (.ref a2)] [(.ref a1), g2, (.ref a1)])) := by
    intro t kt
    refine pre1 t ?_
    refine st2 _ ?_
    show Steps p.tables e below (T2.setTop (mkF m 5 #[.val (.ref a1), .val (.ref a2)] [g2, (.ref a1)])) _
    refine XS.aloadN X2.here hx rfl (hb hby d10_5) rfl rfl ?_
    show Steps p.tables e below (T2.setTop (mkF m 6 #[.val (.ref a1), .val (.ref a2)] [(.ref a1), g2, (.ref a1)])) _
    exact kt
  obtain ⟨T4, X4, e4, st4⟩ := getF X2 hx hZ hown (host := "") (Or.inl (hw _ (own_w 52 rfl))) Via.refl e2 F_2 (g := (mkF m 6 #[.val (.ref a1), .val (.ref a2)] [(.ref a1), g2, (.ref a1)])) rfl rfl (hb hby d10_6)
  have pre5 : own_Go p e below S0 (T4.setTop (mkF m 9 #[.val (.ref a1), .val (.ref a2)] [f2, g2, (.ref a1)])) := by
    intro t kt
    refine pre3 t ?_
    refine st4 _ ?_
    show Steps p.tables e below (T4.setTop (mkF m 9 #[.val (.ref a1), .val (.ref a2)] [f2, g2, (.ref a1)])) _
    exact kt
  obtain ⟨_, _, ⟨T6, L6, k6, n6⟩, -, X6, ⟨Lc6, hQ6, l6, y6, z6⟩, st6⟩ := Jvm.LawKit.callS X4 hx (y := (⟨"com/example/refertario/refertario/store/Episode", "given", "(Ljava/lang/String;Ljava/lang/String;)Ljava/lang/String;"⟩ : MethodName)) hown (mvT hZ (hw _ (own_w 71 rfl))) (mvT hZ (hw _ (own_w 72 rfl))) (mvT hZ (hw _ (own_w 38 rfl))) (mvT hZ (hw _ (own_w 73 rfl))) (by decide) (backOf (W := 1) (rm11 l Z a0 hw [] g2 f2 h0 n0 Z0 r_g2 r_f2) hZ (hw _ (own_w 73 rfl)) (hw _ (own_w 38 rfl)) (by decide) (by decide)) (g := (mkF m 9 #[.val (.ref a1), .val (.ref a2)] [f2, g2, (.ref a1)])) rfl (by rw [hml]; rfl) (argsL := [g2, f2]) (rest := [(.ref a1)]) (lenOf pd_6 rfl) rfl (by show 2 * 0 + _ ≤ _; exact Nat.le_of_eq rfl) (hb hby d10_9) (fun _ _ => ⟨rfl, e4, (by decide : 0 + 0 ≤ _), (by decide : 0 + 0 ≤ _)⟩)
  dsimp only [Pt.U, Pt.locs, Pt.cells, Pt.slots] at X6 l6 y6 z6 st6 hQ6
  subst l6 y6 z6
  obtain ⟨rfl, Nq6, eq6⟩ := hQ6
  have N6 := Fr.app N0 Nq6
  have pre7 : own_Go p e below S0 (T6.setTop (mkF m 13 #[.val (.ref a1), .val (.ref a2)] [(.ref a2), (own_given g2 f2), (.ref a1)])) := by
    intro t kt
    refine pre5 t ?_
    refine st6 _ ?_
    show Steps p.tables e below (T6.setTop (mkF m 12 #[.val (.ref a1), .val (.ref a2)] [(own_given g2 f2), (.ref a1)])) _
    refine XS.aloadN X6.here hx rfl (hb hby d10_12) rfl rfl ?_
    show Steps p.tables e below (T6.setTop (mkF m 13 #[.val (.ref a1), .val (.ref a2)] [(.ref a2), (own_given g2 f2), (.ref a1)])) _
    exact kt
  obtain ⟨T8, X8, e8, st8⟩ := getF X6 hx hZ hown (host := "") (Or.inl (hw _ (own_w 58 rfl))) Via.refl eq6 G_5 (g := (mkF m 13 #[.val (.ref a1), .val (.ref a2)] [(.ref a2), (own_given g2 f2), (.ref a1)])) rfl rfl (hb hby d10_13)
  have pre9 : own_Go p e below S0 (T8.setTop (mkF m 17 #[.val (.ref a1), .val (.ref a2)] [(.ref a1), g5, (own_given g2 f2), (.ref a1)])) := by
    intro t kt
    refine pre7 t ?_
    refine st8 _ ?_
    show Steps p.tables e below (T8.setTop (mkF m 16 #[.val (.ref a1), .val (.ref a2)] [g5, (own_given g2 f2), (.ref a1)])) _
    refine XS.aloadN X8.here hx rfl (hb hby d10_16) rfl rfl ?_
    show Steps p.tables e below (T8.setTop (mkF m 17 #[.val (.ref a1), .val (.ref a2)] [(.ref a1), g5, (own_given g2 f2), (.ref a1)])) _
    exact kt
  obtain ⟨T10, X10, e10, st10⟩ := getF X8 hx hZ hown (host := "") (Or.inl (hw _ (own_w 58 rfl))) Via.refl e8 F_5 (g := (mkF m 17 #[.val (.ref a1), .val (.ref a2)] [(.ref a1), g5, (own_given g2 f2), (.ref a1)])) rfl rfl (hb hby d10_17)
  have pre11 : own_Go p e below S0 (T10.setTop (mkF m 20 #[.val (.ref a1), .val (.ref a2)] [f5, g5, (own_given g2 f2), (.ref a1)])) := by
    intro t kt
    refine pre9 t ?_
    refine st10 _ ?_
    show Steps p.tables e below (T10.setTop (mkF m 20 #[.val (.ref a1), .val (.ref a2)] [f5, g5, (own_given g2 f2), (.ref a1)])) _
    exact kt
  obtain ⟨_, _, ⟨T12, L12, k12, n12⟩, -, X12, ⟨Lc12, hQ12, l12, y12, z12⟩, st12⟩ := Jvm.LawKit.callS X10 hx (y := (⟨"com/example/refertario/refertario/store/Episode", "given", "(Ljava/lang/String;Ljava/lang/String;)Ljava/lang/String;"⟩ : MethodName)) hown (mvT hZ (hw _ (own_w 71 rfl))) (mvT hZ (hw _ (own_w 72 rfl))) (mvT hZ (hw _ (own_w 38 rfl))) (mvT hZ (hw _ (own_w 73 rfl))) (by decide) (backOf (W := 2) (rm11 l Z a0 hw [] g5 f5 h0 n0 Z0 r_g5 r_f5) hZ (hw _ (own_w 73 rfl)) (hw _ (own_w 38 rfl)) (by decide) (by decide)) (g := (mkF m 20 #[.val (.ref a1), .val (.ref a2)] [f5, g5, (own_given g2 f2), (.ref a1)])) rfl (by rw [hml]; rfl) (argsL := [g5, f5]) (rest := [(own_given g2 f2), (.ref a1)]) (lenOf pd_6 rfl) rfl (by show 2 * 0 + _ ≤ _; simp [own_catR, own_catI, own_cat (own_givenR r_g2 r_f2)]) (hb hby d10_20) (fun _ _ => ⟨rfl, e10, (by decide : 0 + 0 ≤ _), (by decide : 0 + 0 ≤ _)⟩)
  dsimp only [Pt.U, Pt.locs, Pt.cells, Pt.slots] at X12 l12 y12 z12 st12 hQ12
  subst l12 y12 z12
  obtain ⟨rfl, Nq12, eq12⟩ := hQ12
  have N12 := Fr.app N6 Nq12
  have pre13 : own_Go p e below S0 (T12.setTop (mkF m 24 #[.val (.ref a1), .val (.ref a2)] [(.ref a2), (own_given g5 f5), (own_given g2 f2), (.ref a1)])) := by
    intro t kt
    refine pre11 t ?_
    refine st12 _ ?_
    show Steps p.tables e below (T12.setTop (mkF m 23 #[.val (.ref a1), .val (.ref a2)] [(own_given g5 f5), (own_given g2 f2), (.ref a1)])) _
    refine XS.aloadN X12.here hx rfl (hb hby d10_23) rfl rfl ?_
    show Steps p.tables e below (T12.setTop (mkF m 24 #[.val (.ref a1), .val (.ref a2)] [(.ref a2), (own_given g5 f5), (own_given g2 f2), (.ref a1)])) _
    exact kt
  obtain ⟨T14, X14, e14, st14⟩ := getF X12 hx hZ hown (host := "") (Or.inl (hw _ (own_w 60 rfl))) Via.refl eq12 G_6 (g := (mkF m 24 #[.val (.ref a1), .val (.ref a2)] [(.ref a2), (own_given g5 f5), (own_given g2 f2), (.ref a1)])) rfl rfl (hb hby d10_24)
  have pre15 : own_Go p e below S0 (T14.setTop (mkF m 28 #[.val (.ref a1), .val (.ref a2)] [(.ref a1), g6, (own_given g5 f5), (own_given g2 f2), (.ref a1)])) := by
    intro t kt
    refine pre13 t ?_
    refine st14 _ ?_
    show Steps p.tables e below (T14.setTop (mkF m 27 #[.val (.ref a1), .val (.ref a2)] [g6, (own_given g5 f5), (own_given g2 f2), (.ref a1)])) _
    refine XS.aloadN X14.here hx rfl (hb hby d10_27) rfl rfl ?_
    show Steps p.tables e below (T14.setTop (mkF m 28 #[.val (.ref a1), .val (.ref a2)] [(.ref a1), g6, (own_given g5 f5), (own_given g2 f2), (.ref a1)])) _
    exact kt
  obtain ⟨T16, X16, e16, st16⟩ := getF X14 hx hZ hown (host := "") (Or.inl (hw _ (own_w 60 rfl))) Via.refl e14 F_6 (g := (mkF m 28 #[.val (.ref a1), .val (.ref a2)] [(.ref a1), g6, (own_given g5 f5), (own_given g2 f2), (.ref a1)])) rfl rfl (hb hby d10_28)
  have pre17 : own_Go p e below S0 (T16.setTop (mkF m 31 #[.val (.ref a1), .val (.ref a2)] [f6, g6, (own_given g5 f5), (own_given g2 f2), (.ref a1)])) := by
    intro t kt
    refine pre15 t ?_
    refine st16 _ ?_
    show Steps p.tables e below (T16.setTop (mkF m 31 #[.val (.ref a1), .val (.ref a2)] [f6, g6, (own_given g5 f5), (own_given g2 f2), (.ref a1)])) _
    exact kt
  obtain ⟨_, _, ⟨T18, L18, k18, n18⟩, -, X18, ⟨Lc18, hQ18, l18, y18, z18⟩, st18⟩ := Jvm.LawKit.callS X16 hx (y := (⟨"com/example/refertario/refertario/store/Episode", "given", "(Ljava/lang/String;Ljava/lang/String;)Ljava/lang/String;"⟩ : MethodName)) hown (mvT hZ (hw _ (own_w 71 rfl))) (mvT hZ (hw _ (own_w 72 rfl))) (mvT hZ (hw _ (own_w 38 rfl))) (mvT hZ (hw _ (own_w 73 rfl))) (by decide) (backOf (W := 3) (rm11 l Z a0 hw [] g6 f6 h0 n0 Z0 r_g6 r_f6) hZ (hw _ (own_w 73 rfl)) (hw _ (own_w 38 rfl)) (by decide) (by decide)) (g := (mkF m 31 #[.val (.ref a1), .val (.ref a2)] [f6, g6, (own_given g5 f5), (own_given g2 f2), (.ref a1)])) rfl (by rw [hml]; rfl) (argsL := [g6, f6]) (rest := [(own_given g5 f5), (own_given g2 f2), (.ref a1)]) (lenOf pd_6 rfl) rfl (by show 2 * 0 + _ ≤ _; simp [own_catR, own_catI, own_cat (own_givenR r_g2 r_f2), own_cat (own_givenR r_g5 r_f5)]) (hb hby d10_31) (fun _ _ => ⟨rfl, e16, (by decide : 0 + 0 ≤ _), (by decide : 0 + 0 ≤ _)⟩)
  dsimp only [Pt.U, Pt.locs, Pt.cells, Pt.slots] at X18 l18 y18 z18 st18 hQ18
  subst l18 y18 z18
  obtain ⟨rfl, Nq18, eq18⟩ := hQ18
  have N18 := Fr.app N12 Nq18
  have pre19 : own_Go p e below S0 (T18.setTop (mkF m 35 #[.val (.ref a1), .val (.ref a2)] [(.ref a1), (own_given g6 f6), (own_given g5 f5), (own_given g2 f2), (.ref a1)])) := by
    intro t kt
    refine pre17 t ?_
    refine st18 _ ?_
    show Steps p.tables e below (T18.setTop (mkF m 34 #[.val (.ref a1), .val (.ref a2)] [(own_given g6 f6), (own_given g5 f5), (own_given g2 f2), (.ref a1)])) _
    refine XS.aloadN X18.here hx rfl (hb hby d10_34) rfl rfl ?_
    show Steps p.tables e below (T18.setTop (mkF m 35 #[.val (.ref a1), .val (.ref a2)] [(.ref a1), (own_given g6 f6), (own_given g5 f5), (own_given g2 f2), (.ref a1)])) _
    exact kt
  obtain ⟨T20, X20, e20, st20⟩ := getF X18 hx hZ hown (host := "") (Or.inl (hw _ (own_w 62 rfl))) Via.refl eq18 F_7 (g := (mkF m 35 #[.val (.ref a1), .val (.ref a2)] [(.ref a1), (own_given g6 f6), (own_given g5 f5), (own_given g2 f2), (.ref a1)])) rfl rfl (hb hby d10_35)
  have pre21 : own_Go p e below S0 (T20.setTop (mkF m 39 #[.val (.ref a1), .val (.ref a2)] [(.ref a1), f7, (own_given g6 f6), (own_given g5 f5), (own_given g2 f2), (.ref a1)])) := by
    intro t kt
    refine pre19 t ?_
    refine st20 _ ?_
    show Steps p.tables e below (T20.setTop (mkF m 38 #[.val (.ref a1), .val (.ref a2)] [f7, (own_given g6 f6), (own_given g5 f5), (own_given g2 f2), (.ref a1)])) _
    refine XS.aloadN X20.here hx rfl (hb hby d10_38) rfl rfl ?_
    show Steps p.tables e below (T20.setTop (mkF m 39 #[.val (.ref a1), .val (.ref a2)] [(.ref a1), f7, (own_given g6 f6), (own_given g5 f5), (own_given g2 f2), (.ref a1)])) _
    exact kt
  obtain ⟨T22, X22, e22, st22⟩ := getF X20 hx hZ hown (host := "") (Or.inl (hw _ (own_w 64 rfl))) Via.refl e20 F_8 (g := (mkF m 39 #[.val (.ref a1), .val (.ref a2)] [(.ref a1), f7, (own_given g6 f6), (own_given g5 f5), (own_given g2 f2), (.ref a1)])) rfl rfl (hb hby d10_39)
  have pre23 : own_Go p e below S0 (T22.setTop (mkF m 42 #[.val (.ref a1), .val (.ref a2)] [f8, f7, (own_given g6 f6), (own_given g5 f5), (own_given g2 f2), (.ref a1)])) := by
    intro t kt
    refine pre21 t ?_
    refine st22 _ ?_
    show Steps p.tables e below (T22.setTop (mkF m 42 #[.val (.ref a1), .val (.ref a2)] [f8, f7, (own_given g6 f6), (own_given g5 f5), (own_given g2 f2), (.ref a1)])) _
    exact kt
  obtain ⟨cq24, qa24, qb24⟩ := xE1.cell
  obtain ⟨_, _, ⟨T24, L24, k24, n24⟩, -, X24, ⟨Lc24, hQ24, l24, y24, z24⟩, st24⟩ := X22.privateBack hx (y := (⟨"com/example/refertario/refertario/store/Episode", "with", "(Ljava/lang/String;Ljava/lang/String;Ljava/lang/String;Ljava/lang/String;Lcom/example/refertario/refertario/store/Episode$Status;)Lcom/example/refertario/refertario/store/Episode;"⟩ : MethodName)) hown (mvT hZ (hw _ (own_w 74 rfl))) (mvT hZ (hw _ (own_w 75 rfl))) (own_selPriv (by decide) (mvT hZ (hw _ (own_w 37 rfl))) (mvP hZ (hw _ (own_w 76 rfl))) (mvT hZ (hw _ (own_w 75 rfl)))) (Cond.privateMethod_at (mvP hZ (hw _ (own_w 76 rfl)) (args := #[]))) (mvT hZ (hw _ (own_w 77 rfl))) (by decide) (backOf (W := 0) (rm12 l Z a0 hw [] a1 (own_given g2 f2) (own_given g5 f5) (own_given g6 f6) f7 f8 f0 f1 f2 f3 f4 f5 f6 f7 f8 h0 n0 Z0 (own_givenR r_g2 r_f2) (own_givenR r_g5 r_f5) (own_givenR r_g6 r_f6) r_f7 r_f8 r_f0 r_f1 r_f2 r_f3 r_f4 r_f5 r_f6 r_f7 r_f8 xE1 F_0 F_1 F_2 F_3 F_4 F_5 F_6 F_7 F_8) hZ (hw _ (own_w 77 rfl)) (hw _ (own_w 38 rfl)) (by decide) (by decide)) (g := (mkF m 42 #[.val (.ref a1), .val (.ref a2)] [f8, f7, (own_given g6 f6), (own_given g5 f5), (own_given g2 f2), (.ref a1)])) rfl (by rw [hml]; rfl) (Steps.refl _) (a := a1) (by rw [e22]; exact qa24) qb24 (argsL := [(own_given g2 f2), (own_given g5 f5), (own_given g6 f6), f7, f8]) (rest := []) (lenOf pd_7 rfl) rfl (by show 2 * 0 + _ ≤ _; exact Nat.le_of_eq rfl) (hb hby d10_42) (fun _ _ => ⟨rfl, e22, (by decide : 0 + 1 ≤ _), (by decide : 0 + 9 ≤ _)⟩)
  dsimp only [Pt.U, Pt.locs, Pt.cells, Pt.slots] at X24 l24 y24 z24 st24 hQ24
  subst l24 y24 z24
  obtain ⟨b25, rfl, Nq24, K24, g26, g27, g28, g29, g30, g31, g32, g33, g34, g35, g36⟩ := hQ24
  have N24 := Fr.app N18 Nq24
  have ne37 : a1 ≠ b25 := Nat.ne_of_lt (Nat.lt_of_lt_of_le xE1.lt g26)
  have ne38 : a2 ≠ b25 := Nat.ne_of_lt (Nat.lt_of_lt_of_le G_0.lt g26)
  have ge39 : n0 ≤ b25 := Nat.le_trans Z0 g26
  have sz40 : h0.size ≤ b25 := Nat.le_trans kc0.1 g26
  have zs41 : n0 ≤ T24.heap.size := Nat.le_trans Z0 K24.1
  have kc42 : Keep h0 T24.heap [] := kc0.trans K24 all0
  have pre43 : own_Go p e below S0 (T24.setTop (mkF m 45 #[.val (.ref a1), .val (.ref a2)] [(.ref b25)])) := by
    intro t kt
    refine pre23 t ?_
    refine st24.trans ?_
    show Steps p.tables e below (T24.setTop (mkF m 45 #[.val (.ref a1), .val (.ref a2)] [(.ref b25)])) _
    exact kt
  obtain ⟨fs, hr, hrun, hended, hW, hsame⟩ := X24.leave (v := some (.ref b25)) (fun h => by rw [Bd.returns] at h; cases h)
  refine ⟨_, _, fin _ (pre43 _ ?_), hrun, hended, _, _, rfl, ?_, ⟨_, rfl⟩, hW, hsame.mono (by decide) (by decide)⟩
  · jvm_step X24.here [X24.here.top, hx, (hb hby d10_45), X24.method', Bd.returns, Value.isRef, FieldType.isReference]
    first | (intro acts; rw [hr _ acts rfl rfl rfl]) | rw [hr _ _ rfl rfl rfl]
    exact Steps.refl _
  · show Q10 Z a1 a2 f0 f1 f2 f3 f4 f5 f6 f7 f8 g0 g1 g2 g3 g4 g5 g6 g7 g8 h0 n0 _ T24.heap _
    exact ⟨b25, rfl, N24, kc42, sz40, g27, g28, g29, g30, g31, g32, g33, g34, g35, g36⟩

theorem d13_0 : decode prog_72_method_12_code 0 = .ok (.aload_n 0, 1) := by decide +kernel
theorem d13_1 : decode prog_72_method_12_code 1 = .ok (.getfield 7, 3) := by decide +kernel
theorem d13_4 : decode prog_72_method_12_code 4 = .ok (.areturn, 1) := by decide +kernel
theorem pn_13 : plainName "com/example/refertario/refertario/store/Episode" = true := by first | (simp [plainName, overriddenIn]; done) | decide +kernel
theorem ef_13 (m : MethodId) (x0 : Addr) : entryFrame m #[(.ref x0)] 1 = mkF m 0 #[.val (.ref x0)] [] := by first | (simp [entryFrame, mkF, argsToLocals, Value.category]; done) | rfl
def Q13 (Z : State) (a1 : Addr) (w1 : Value) (h0 : Heap) (n0 : Nat) (v : Option Value) (h : Heap) (L : List Loc) : Prop := v = (some w1) ∧ Fr n0 L ∧ h = h0
set_option maxRecDepth 65536 in
set_option maxHeartbeats 40000000 in
theorem rm13 (l : Launch) (Z : State) (a0 : Array Value) (hw : ∀ d ∈ tables_1, d.before a0 Z = true) (ws : List Jvm.Cond) (a1 : Addr) (w1 : Value) (h0 : Heap) (n0 : Nat) (Z0 : n0 ≤ h0.size) (xF1 : Fld Z h0 a1 "com/example/refertario/refertario/store/Episode" "application" "Ljava/lang/String;" w1) (r_w1 : (w1.isRef = true)) :
    MetFree l (⟨"com/example/refertario/refertario/store/Episode", "application", "()Ljava/lang/String;"⟩ : MethodName) (head1 (Jvm.Cond.code (⟨"com/example/refertario/refertario/store/Episode", "application", "()Ljava/lang/String;"⟩ : MethodName) prog_72_method_12_code 1 (some (.object "java/lang/String")) :: ws) ({ frames := 0, cells := 0, slots := 0, locals := 0 } : Room)) (fun a U => a = #[(.ref a1)] ∧ Z.Warmed39 U.vm ∧ U.heap = h0) (fun _ _ _ _ _ => True) (fun _ U o U' => ∃ v L, o = .returned v ∧ Q13 Z a1 w1 h0 n0 v U'.heap L ∧ FrameEnd U o U' L ({ frames := 0, cells := 0, slots := 0, locals := 0 } : Room).cells ({ frames := 0, cells := 0, slots := 0, locals := 0 } : Room).slots) := by
  refine MetFree.of_bodySF (plainFor_of_name pn_13) hisR ?_
  intro p e s m args below meth c s₁ Bd hml0 hP hK
  obtain ⟨rfl, hZ, hh⟩ := hP
  have hx := Bd.exec
  have hby := Bd.bytes
  have hml : c.maxLocals = 1 := hml0
  have hown0 := findClass_of_methodNamed Bd.named
  have hown : s.vm.findClass "com/example/refertario/refertario/store/Episode" = some m.cls := hown0
  have hnm := (name_of_methodNamed Bd.named Bd.method).1
  have X0 : Stand p l e ({ frames := 0, cells := 0, slots := 0, locals := 0 } : Room) s m #[(.ref a1)] below meth c s₁ [] 0 0 := Stand.of_body Bd
  have e0 : s₁.heap = h0 := by rw [← hh, Bd.state]; rfl
  have N0 := Fr.nil n0
  obtain ⟨S0, hS0⟩ : ∃ z, z = s₁.setTop (entryFrame m #[(.ref a1)] 1) := ⟨_, rfl⟩
  have pre0 : own_Go p e below S0 (s₁.setTop (mkF m 0 #[.val (.ref a1)] [])) := fun t k => by rw [hS0]; exact castTop (ef_13 m a1) k
  have fin : ∀ t, Steps p.tables e below S0 t → Steps p.tables e below (s₁.setTop (entryFrame m #[(.ref a1)] 1)) t := fun t k => by rw [hS0] at k; exact k
  have pre1 : own_Go p e below S0 (s₁.setTop (mkF m 1 #[.val (.ref a1)] [(.ref a1)])) := by
    intro t kt
    refine pre0 t ?_
    refine XS.aloadN X0.here hx rfl (hb hby d13_0) rfl rfl ?_
    show Steps p.tables e below (s₁.setTop (mkF m 1 #[.val (.ref a1)] [(.ref a1)])) _
    exact kt
  obtain ⟨T2, X2, e2, st2⟩ := getF X0 hx hZ hown (host := "") (Or.inl (hw _ (own_w 48 rfl))) Via.refl e0 xF1 (g := (mkF m 1 #[.val (.ref a1)] [(.ref a1)])) rfl rfl (hb hby d13_1)
  have pre3 : own_Go p e below S0 (T2.setTop (mkF m 4 #[.val (.ref a1)] [w1])) := by
    intro t kt
    refine pre1 t ?_
    refine st2 _ ?_
    show Steps p.tables e below (T2.setTop (mkF m 4 #[.val (.ref a1)] [w1])) _
    exact kt
  obtain ⟨fs, hr, hrun, hended, hW, hsame⟩ := X2.leave (v := some w1) (fun h => by rw [Bd.returns] at h; cases h)
  refine ⟨_, _, fin _ (pre3 _ ?_), hrun, hended, _, _, rfl, ?_, ⟨_, rfl⟩, hW, hsame.mono (by decide) (by decide)⟩
  · exact own_retR X2 hx Bd.returns rfl r_w1 (hb hby d13_4) hr
  · show Q13 Z a1 w1 h0 n0 _ T2.heap _
    rw [e2]
    exact ⟨rfl, N0, rfl⟩

theorem d16_0 : decode prog_72_method_13_code 0 = .ok (.aload_n 0, 1) := by decide +kernel
theorem d16_1 : decode prog_72_method_13_code 1 = .ok (.getfield 13, 3) := by decide +kernel
theorem d16_4 : decode prog_72_method_13_code 4 = .ok (.areturn, 1) := by decide +kernel
theorem pn_16 : plainName "com/example/refertario/refertario/store/Episode" = true := by first | (simp [plainName, overriddenIn]; done) | decide +kernel
theorem ef_16 (m : MethodId) (x0 : Addr) : entryFrame m #[(.ref x0)] 1 = mkF m 0 #[.val (.ref x0)] [] := by first | (simp [entryFrame, mkF, argsToLocals, Value.category]; done) | rfl
def Q16 (Z : State) (a1 : Addr) (w1 : Value) (h0 : Heap) (n0 : Nat) (v : Option Value) (h : Heap) (L : List Loc) : Prop := v = (some w1) ∧ Fr n0 L ∧ h = h0
set_option maxRecDepth 65536 in
set_option maxHeartbeats 40000000 in
theorem rm16 (l : Launch) (Z : State) (a0 : Array Value) (hw : ∀ d ∈ tables_1, d.before a0 Z = true) (ws : List Jvm.Cond) (a1 : Addr) (w1 : Value) (h0 : Heap) (n0 : Nat) (Z0 : n0 ≤ h0.size) (xF1 : Fld Z h0 a1 "com/example/refertario/refertario/store/Episode" "id" "Ljava/lang/String;" w1) (r_w1 : (w1.isRef = true)) :
    MetFree l (⟨"com/example/refertario/refertario/store/Episode", "id", "()Ljava/lang/String;"⟩ : MethodName) (head1 (Jvm.Cond.code (⟨"com/example/refertario/refertario/store/Episode", "id", "()Ljava/lang/String;"⟩ : MethodName) prog_72_method_13_code 1 (some (.object "java/lang/String")) :: ws) ({ frames := 0, cells := 0, slots := 0, locals := 0 } : Room)) (fun a U => a = #[(.ref a1)] ∧ Z.Warmed39 U.vm ∧ U.heap = h0) (fun _ _ _ _ _ => True) (fun _ U o U' => ∃ v L, o = .returned v ∧ Q16 Z a1 w1 h0 n0 v U'.heap L ∧ FrameEnd U o U' L ({ frames := 0, cells := 0, slots := 0, locals := 0 } : Room).cells ({ frames := 0, cells := 0, slots := 0, locals := 0 } : Room).slots) := by
  refine MetFree.of_bodySF (plainFor_of_name pn_16) hisR ?_
  intro p e s m args below meth c s₁ Bd hml0 hP hK
  obtain ⟨rfl, hZ, hh⟩ := hP
  have hx := Bd.exec
  have hby := Bd.bytes
  have hml : c.maxLocals = 1 := hml0
  have hown0 := findClass_of_methodNamed Bd.named
  have hown : s.vm.findClass "com/example/refertario/refertario/store/Episode" = some m.cls := hown0
  have hnm := (name_of_methodNamed Bd.named Bd.method).1
  have X0 : Stand p l e ({ frames := 0, cells := 0, slots := 0, locals := 0 } : Room) s m #[(.ref a1)] below meth c s₁ [] 0 0 := Stand.of_body Bd
  have e0 : s₁.heap = h0 := by rw [← hh, Bd.state]; rfl
  have N0 := Fr.nil n0
  obtain ⟨S0, hS0⟩ : ∃ z, z = s₁.setTop (entryFrame m #[(.ref a1)] 1) := ⟨_, rfl⟩
  have pre0 : own_Go p e below S0 (s₁.setTop (mkF m 0 #[.val (.ref a1)] [])) := fun t k => by rw [hS0]; exact castTop (ef_16 m a1) k
  have fin : ∀ t, Steps p.tables e below S0 t → Steps p.tables e below (s₁.setTop (entryFrame m #[(.ref a1)] 1)) t := fun t k => by rw [hS0] at k; exact k
  have pre1 : own_Go p e below S0 (s₁.setTop (mkF m 1 #[.val (.ref a1)] [(.ref a1)])) := by
    intro t kt
    refine pre0 t ?_
    refine XS.aloadN X0.here hx rfl (hb hby d16_0) rfl rfl ?_
    show Steps p.tables e below (s₁.setTop (mkF m 1 #[.val (.ref a1)] [(.ref a1)])) _
    exact kt
  obtain ⟨T2, X2, e2, st2⟩ := getF X0 hx hZ hown (host := "") (Or.inl (hw _ (own_w 50 rfl))) Via.refl e0 xF1 (g := (mkF m 1 #[.val (.ref a1)] [(.ref a1)])) rfl rfl (hb hby d16_1)
  have pre3 : own_Go p e below S0 (T2.setTop (mkF m 4 #[.val (.ref a1)] [w1])) := by
    intro t kt
    refine pre1 t ?_
    refine st2 _ ?_
    show Steps p.tables e below (T2.setTop (mkF m 4 #[.val (.ref a1)] [w1])) _
    exact kt
  obtain ⟨fs, hr, hrun, hended, hW, hsame⟩ := X2.leave (v := some w1) (fun h => by rw [Bd.returns] at h; cases h)
  refine ⟨_, _, fin _ (pre3 _ ?_), hrun, hended, _, _, rfl, ?_, ⟨_, rfl⟩, hW, hsame.mono (by decide) (by decide)⟩
  · exact own_retR X2 hx Bd.returns rfl r_w1 (hb hby d16_4) hr
  · show Q16 Z a1 w1 h0 n0 _ T2.heap _
    rw [e2]
    exact ⟨rfl, N0, rfl⟩

theorem d17_0 : decode prog_72_method_14_code 0 = .ok (.aload_n 0, 1) := by decide +kernel
theorem d17_1 : decode prog_72_method_14_code 1 = .ok (.getfield 16, 3) := by decide +kernel
theorem d17_4 : decode prog_72_method_14_code 4 = .ok (.areturn, 1) := by decide +kernel
theorem pn_17 : plainName "com/example/refertario/refertario/store/Episode" = true := by first | (simp [plainName, overriddenIn]; done) | decide +kernel
theorem ef_17 (m : MethodId) (x0 : Addr) : entryFrame m #[(.ref x0)] 1 = mkF m 0 #[.val (.ref x0)] [] := by first | (simp [entryFrame, mkF, argsToLocals, Value.category]; done) | rfl
def Q17 (Z : State) (a1 : Addr) (w1 : Value) (h0 : Heap) (n0 : Nat) (v : Option Value) (h : Heap) (L : List Loc) : Prop := v = (some w1) ∧ Fr n0 L ∧ h = h0
set_option maxRecDepth 65536 in
set_option maxHeartbeats 40000000 in
theorem rm17 (l : Launch) (Z : State) (a0 : Array Value) (hw : ∀ d ∈ tables_1, d.before a0 Z = true) (ws : List Jvm.Cond) (a1 : Addr) (w1 : Value) (h0 : Heap) (n0 : Nat) (Z0 : n0 ≤ h0.size) (xF1 : Fld Z h0 a1 "com/example/refertario/refertario/store/Episode" "idType" "Ljava/lang/String;" w1) (r_w1 : (w1.isRef = true)) :
    MetFree l (⟨"com/example/refertario/refertario/store/Episode", "idType", "()Ljava/lang/String;"⟩ : MethodName) (head1 (Jvm.Cond.code (⟨"com/example/refertario/refertario/store/Episode", "idType", "()Ljava/lang/String;"⟩ : MethodName) prog_72_method_14_code 1 (some (.object "java/lang/String")) :: ws) ({ frames := 0, cells := 0, slots := 0, locals := 0 } : Room)) (fun a U => a = #[(.ref a1)] ∧ Z.Warmed39 U.vm ∧ U.heap = h0) (fun _ _ _ _ _ => True) (fun _ U o U' => ∃ v L, o = .returned v ∧ Q17 Z a1 w1 h0 n0 v U'.heap L ∧ FrameEnd U o U' L ({ frames := 0, cells := 0, slots := 0, locals := 0 } : Room).cells ({ frames := 0, cells := 0, slots := 0, locals := 0 } : Room).slots) := by
  refine MetFree.of_bodySF (plainFor_of_name pn_17) hisR ?_
  intro p e s m args below meth c s₁ Bd hml0 hP hK
  obtain ⟨rfl, hZ, hh⟩ := hP
  have hx := Bd.exec
  have hby := Bd.bytes
  have hml : c.maxLocals = 1 := hml0
  have hown0 := findClass_of_methodNamed Bd.named
  have hown : s.vm.findClass "com/example/refertario/refertario/store/Episode" = some m.cls := hown0
  have hnm := (name_of_methodNamed Bd.named Bd.method).1
  have X0 : Stand p l e ({ frames := 0, cells := 0, slots := 0, locals := 0 } : Room) s m #[(.ref a1)] below meth c s₁ [] 0 0 := Stand.of_body Bd
  have e0 : s₁.heap = h0 := by rw [← hh, Bd.state]; rfl
  have N0 := Fr.nil n0
  obtain ⟨S0, hS0⟩ : ∃ z, z = s₁.setTop (entryFrame m #[(.ref a1)] 1) := ⟨_, rfl⟩
  have pre0 : own_Go p e below S0 (s₁.setTop (mkF m 0 #[.val (.ref a1)] [])) := fun t k => by rw [hS0]; exact castTop (ef_17 m a1) k
  have fin : ∀ t, Steps p.tables e below S0 t → Steps p.tables e below (s₁.setTop (entryFrame m #[(.ref a1)] 1)) t := fun t k => by rw [hS0] at k; exact k
  have pre1 : own_Go p e below S0 (s₁.setTop (mkF m 1 #[.val (.ref a1)] [(.ref a1)])) := by
    intro t kt
    refine pre0 t ?_
    refine XS.aloadN X0.here hx rfl (hb hby d17_0) rfl rfl ?_
    show Steps p.tables e below (s₁.setTop (mkF m 1 #[.val (.ref a1)] [(.ref a1)])) _
    exact kt
  obtain ⟨T2, X2, e2, st2⟩ := getF X0 hx hZ hown (host := "") (Or.inl (hw _ (own_w 52 rfl))) Via.refl e0 xF1 (g := (mkF m 1 #[.val (.ref a1)] [(.ref a1)])) rfl rfl (hb hby d17_1)
  have pre3 : own_Go p e below S0 (T2.setTop (mkF m 4 #[.val (.ref a1)] [w1])) := by
    intro t kt
    refine pre1 t ?_
    refine st2 _ ?_
    show Steps p.tables e below (T2.setTop (mkF m 4 #[.val (.ref a1)] [w1])) _
    exact kt
  obtain ⟨fs, hr, hrun, hended, hW, hsame⟩ := X2.leave (v := some w1) (fun h => by rw [Bd.returns] at h; cases h)
  refine ⟨_, _, fin _ (pre3 _ ?_), hrun, hended, _, _, rfl, ?_, ⟨_, rfl⟩, hW, hsame.mono (by decide) (by decide)⟩
  · exact own_retR X2 hx Bd.returns rfl r_w1 (hb hby d17_4) hr
  · show Q17 Z a1 w1 h0 n0 _ T2.heap _
    rw [e2]
    exact ⟨rfl, N0, rfl⟩

theorem d18_0 : decode prog_72_method_15_code 0 = .ok (.aload_n 0, 1) := by decide +kernel
theorem d18_1 : decode prog_72_method_15_code 1 = .ok (.getfield 19, 3) := by decide +kernel
theorem d18_4 : decode prog_72_method_15_code 4 = .ok (.areturn, 1) := by decide +kernel
theorem pn_18 : plainName "com/example/refertario/refertario/store/Episode" = true := by first | (simp [plainName, overriddenIn]; done) | decide +kernel
theorem ef_18 (m : MethodId) (x0 : Addr) : entryFrame m #[(.ref x0)] 1 = mkF m 0 #[.val (.ref x0)] [] := by first | (simp [entryFrame, mkF, argsToLocals, Value.category]; done) | rfl
def Q18 (Z : State) (a1 : Addr) (w1 : Value) (h0 : Heap) (n0 : Nat) (v : Option Value) (h : Heap) (L : List Loc) : Prop := v = (some w1) ∧ Fr n0 L ∧ h = h0
set_option maxRecDepth 65536 in
set_option maxHeartbeats 40000000 in
theorem rm18 (l : Launch) (Z : State) (a0 : Array Value) (hw : ∀ d ∈ tables_1, d.before a0 Z = true) (ws : List Jvm.Cond) (a1 : Addr) (w1 : Value) (h0 : Heap) (n0 : Nat) (Z0 : n0 ≤ h0.size) (xF1 : Fld Z h0 a1 "com/example/refertario/refertario/store/Episode" "patient" "Ljava/lang/String;" w1) (r_w1 : (w1.isRef = true)) :
    MetFree l (⟨"com/example/refertario/refertario/store/Episode", "patient", "()Ljava/lang/String;"⟩ : MethodName) (head1 (Jvm.Cond.code (⟨"com/example/refertario/refertario/store/Episode", "patient", "()Ljava/lang/String;"⟩ : MethodName) prog_72_method_15_code 1 (some (.object "java/lang/String")) :: ws) ({ frames := 0, cells := 0, slots := 0, locals := 0 } : Room)) (fun a U => a = #[(.ref a1)] ∧ Z.Warmed39 U.vm ∧ U.heap = h0) (fun _ _ _ _ _ => True) (fun _ U o U' => ∃ v L, o = .returned v ∧ Q18 Z a1 w1 h0 n0 v U'.heap L ∧ FrameEnd U o U' L ({ frames := 0, cells := 0, slots := 0, locals := 0 } : Room).cells ({ frames := 0, cells := 0, slots := 0, locals := 0 } : Room).slots) := by
  refine MetFree.of_bodySF (plainFor_of_name pn_18) hisR ?_
  intro p e s m args below meth c s₁ Bd hml0 hP hK
  obtain ⟨rfl, hZ, hh⟩ := hP
  have hx := Bd.exec
  have hby := Bd.bytes
  have hml : c.maxLocals = 1 := hml0
  have hown0 := findClass_of_methodNamed Bd.named
  have hown : s.vm.findClass "com/example/refertario/refertario/store/Episode" = some m.cls := hown0
  have hnm := (name_of_methodNamed Bd.named Bd.method).1
  have X0 : Stand p l e ({ frames := 0, cells := 0, slots := 0, locals := 0 } : Room) s m #[(.ref a1)] below meth c s₁ [] 0 0 := Stand.of_body Bd
  have e0 : s₁.heap = h0 := by rw [← hh, Bd.state]; rfl
  have N0 := Fr.nil n0
  obtain ⟨S0, hS0⟩ : ∃ z, z = s₁.setTop (entryFrame m #[(.ref a1)] 1) := ⟨_, rfl⟩
  have pre0 : own_Go p e below S0 (s₁.setTop (mkF m 0 #[.val (.ref a1)] [])) := fun t k => by rw [hS0]; exact castTop (ef_18 m a1) k
  have fin : ∀ t, Steps p.tables e below S0 t → Steps p.tables e below (s₁.setTop (entryFrame m #[(.ref a1)] 1)) t := fun t k => by rw [hS0] at k; exact k
  have pre1 : own_Go p e below S0 (s₁.setTop (mkF m 1 #[.val (.ref a1)] [(.ref a1)])) := by
    intro t kt
    refine pre0 t ?_
    refine XS.aloadN X0.here hx rfl (hb hby d18_0) rfl rfl ?_
    show Steps p.tables e below (s₁.setTop (mkF m 1 #[.val (.ref a1)] [(.ref a1)])) _
    exact kt
  obtain ⟨T2, X2, e2, st2⟩ := getF X0 hx hZ hown (host := "") (Or.inl (hw _ (own_w 54 rfl))) Via.refl e0 xF1 (g := (mkF m 1 #[.val (.ref a1)] [(.ref a1)])) rfl rfl (hb hby d18_1)
  have pre3 : own_Go p e below S0 (T2.setTop (mkF m 4 #[.val (.ref a1)] [w1])) := by
    intro t kt
    refine pre1 t ?_
    refine st2 _ ?_
    show Steps p.tables e below (T2.setTop (mkF m 4 #[.val (.ref a1)] [w1])) _
    exact kt
  obtain ⟨fs, hr, hrun, hended, hW, hsame⟩ := X2.leave (v := some w1) (fun h => by rw [Bd.returns] at h; cases h)
  refine ⟨_, _, fin _ (pre3 _ ?_), hrun, hended, _, _, rfl, ?_, ⟨_, rfl⟩, hW, hsame.mono (by decide) (by decide)⟩
  · exact own_retR X2 hx Bd.returns rfl r_w1 (hb hby d18_4) hr
  · show Q18 Z a1 w1 h0 n0 _ T2.heap _
    rw [e2]
    exact ⟨rfl, N0, rfl⟩

theorem d19_0 : decode prog_72_method_16_code 0 = .ok (.aload_n 0, 1) := by decide +kernel
theorem d19_1 : decode prog_72_method_16_code 1 = .ok (.getfield 22, 3) := by decide +kernel
theorem d19_4 : decode prog_72_method_16_code 4 = .ok (.areturn, 1) := by decide +kernel
theorem pn_19 : plainName "com/example/refertario/refertario/store/Episode" = true := by first | (simp [plainName, overriddenIn]; done) | decide +kernel
theorem ef_19 (m : MethodId) (x0 : Addr) : entryFrame m #[(.ref x0)] 1 = mkF m 0 #[.val (.ref x0)] [] := by first | (simp [entryFrame, mkF, argsToLocals, Value.category]; done) | rfl
def Q19 (Z : State) (a1 : Addr) (w1 : Value) (h0 : Heap) (n0 : Nat) (v : Option Value) (h : Heap) (L : List Loc) : Prop := v = (some w1) ∧ Fr n0 L ∧ h = h0
set_option maxRecDepth 65536 in
set_option maxHeartbeats 40000000 in
theorem rm19 (l : Launch) (Z : State) (a0 : Array Value) (hw : ∀ d ∈ tables_1, d.before a0 Z = true) (ws : List Jvm.Cond) (a1 : Addr) (w1 : Value) (h0 : Heap) (n0 : Nat) (Z0 : n0 ≤ h0.size) (xF1 : Fld Z h0 a1 "com/example/refertario/refertario/store/Episode" "patientClass" "Ljava/lang/String;" w1) (r_w1 : (w1.isRef = true)) :
    MetFree l (⟨"com/example/refertario/refertario/store/Episode", "patientClass", "()Ljava/lang/String;"⟩ : MethodName) (head1 (Jvm.Cond.code (⟨"com/example/refertario/refertario/store/Episode", "patientClass", "()Ljava/lang/String;"⟩ : MethodName) prog_72_method_16_code 1 (some (.object "java/lang/String")) :: ws) ({ frames := 0, cells := 0, slots := 0, locals := 0 } : Room)) (fun a U => a = #[(.ref a1)] ∧ Z.Warmed39 U.vm ∧ U.heap = h0) (fun _ _ _ _ _ => True) (fun _ U o U' => ∃ v L, o = .returned v ∧ Q19 Z a1 w1 h0 n0 v U'.heap L ∧ FrameEnd U o U' L ({ frames := 0, cells := 0, slots := 0, locals := 0 } : Room).cells ({ frames := 0, cells := 0, slots := 0, locals := 0 } : Room).slots) := by
  refine MetFree.of_bodySF (plainFor_of_name pn_19) hisR ?_
  intro p e s m args below meth c s₁ Bd hml0 hP hK
  obtain ⟨rfl, hZ, hh⟩ := hP
  have hx := Bd.exec
  have hby := Bd.bytes
  have hml : c.maxLocals = 1 := hml0
  have hown0 := findClass_of_methodNamed Bd.named
  have hown : s.vm.findClass "com/example/refertario/refertario/store/Episode" = some m.cls := hown0
  have hnm := (name_of_methodNamed Bd.named Bd.method).1
  have X0 : Stand p l e ({ frames := 0, cells := 0, slots := 0, locals := 0 } : Room) s m #[(.ref a1)] below meth c s₁ [] 0 0 := Stand.of_body Bd
  have e0 : s₁.heap = h0 := by rw [← hh, Bd.state]; rfl
  have N0 := Fr.nil n0
  obtain ⟨S0, hS0⟩ : ∃ z, z = s₁.setTop (entryFrame m #[(.ref a1)] 1) := ⟨_, rfl⟩
  have pre0 : own_Go p e below S0 (s₁.setTop (mkF m 0 #[.val (.ref a1)] [])) := fun t k => by rw [hS0]; exact castTop (ef_19 m a1) k
  have fin : ∀ t, Steps p.tables e below S0 t → Steps p.tables e below (s₁.setTop (entryFrame m #[(.ref a1)] 1)) t := fun t k => by rw [hS0] at k; exact k
  have pre1 : own_Go p e below S0 (s₁.setTop (mkF m 1 #[.val (.ref a1)] [(.ref a1)])) := by
    intro t kt
    refine pre0 t ?_
    refine XS.aloadN X0.here hx rfl (hb hby d19_0) rfl rfl ?_
    show Steps p.tables e below (s₁.setTop (mkF m 1 #[.val (.ref a1)] [(.ref a1)])) _
    exact kt
  obtain ⟨T2, X2, e2, st2⟩ := getF X0 hx hZ hown (host := "") (Or.inl (hw _ (own_w 56 rfl))) Via.refl e0 xF1 (g := (mkF m 1 #[.val (.ref a1)] [(.ref a1)])) rfl rfl (hb hby d19_1)
  have pre3 : own_Go p e below S0 (T2.setTop (mkF m 4 #[.val (.ref a1)] [w1])) := by
    intro t kt
    refine pre1 t ?_
    refine st2 _ ?_
    show Steps p.tables e below (T2.setTop (mkF m 4 #[.val (.ref a1)] [w1])) _
    exact kt
  obtain ⟨fs, hr, hrun, hended, hW, hsame⟩ := X2.leave (v := some w1) (fun h => by rw [Bd.returns] at h; cases h)
  refine ⟨_, _, fin _ (pre3 _ ?_), hrun, hended, _, _, rfl, ?_, ⟨_, rfl⟩, hW, hsame.mono (by decide) (by decide)⟩
  · exact own_retR X2 hx Bd.returns rfl r_w1 (hb hby d19_4) hr
  · show Q19 Z a1 w1 h0 n0 _ T2.heap _
    rw [e2]
    exact ⟨rfl, N0, rfl⟩

theorem d20_0 : decode prog_72_method_17_code 0 = .ok (.aload_n 0, 1) := by decide +kernel
theorem d20_1 : decode prog_72_method_17_code 1 = .ok (.getfield 25, 3) := by decide +kernel
theorem d20_4 : decode prog_72_method_17_code 4 = .ok (.areturn, 1) := by decide +kernel
theorem pn_20 : plainName "com/example/refertario/refertario/store/Episode" = true := by first | (simp [plainName, overriddenIn]; done) | decide +kernel
theorem ef_20 (m : MethodId) (x0 : Addr) : entryFrame m #[(.ref x0)] 1 = mkF m 0 #[.val (.ref x0)] [] := by first | (simp [entryFrame, mkF, argsToLocals, Value.category]; done) | rfl
def Q20 (Z : State) (a1 : Addr) (w1 : Value) (h0 : Heap) (n0 : Nat) (v : Option Value) (h : Heap) (L : List Loc) : Prop := v = (some w1) ∧ Fr n0 L ∧ h = h0
set_option maxRecDepth 65536 in
set_option maxHeartbeats 40000000 in
theorem rm20 (l : Launch) (Z : State) (a0 : Array Value) (hw : ∀ d ∈ tables_1, d.before a0 Z = true) (ws : List Jvm.Cond) (a1 : Addr) (w1 : Value) (h0 : Heap) (n0 : Nat) (Z0 : n0 ≤ h0.size) (xF1 : Fld Z h0 a1 "com/example/refertario/refertario/store/Episode" "pointOfCare" "Ljava/lang/String;" w1) (r_w1 : (w1.isRef = true)) :
    MetFree l (⟨"com/example/refertario/refertario/store/Episode", "pointOfCare", "()Ljava/lang/String;"⟩ : MethodName) (head1 (Jvm.Cond.code (⟨"com/example/refertario/refertario/store/Episode", "pointOfCare", "()Ljava/lang/String;"⟩ : MethodName) prog_72_method_17_code 1 (some (.object "java/lang/String")) :: ws) ({ frames := 0, cells := 0, slots := 0, locals := 0 } : Room)) (fun a U => a = #[(.ref a1)] ∧ Z.Warmed39 U.vm ∧ U.heap = h0) (fun _ _ _ _ _ => True) (fun _ U o U' => ∃ v L, o = .returned v ∧ Q20 Z a1 w1 h0 n0 v U'.heap L ∧ FrameEnd U o U' L ({ frames := 0, cells := 0, slots := 0, locals := 0 } : Room).cells ({ frames := 0, cells := 0, slots := 0, locals := 0 } : Room).slots) := by
  refine MetFree.of_bodySF (plainFor_of_name pn_20) hisR ?_
  intro p e s m args below meth c s₁ Bd hml0 hP hK
  obtain ⟨rfl, hZ, hh⟩ := hP
  have hx := Bd.exec
  have hby := Bd.bytes
  have hml : c.maxLocals = 1 := hml0
  have hown0 := findClass_of_methodNamed Bd.named
  have hown : s.vm.findClass "com/example/refertario/refertario/store/Episode" = some m.cls := hown0
  have hnm := (name_of_methodNamed Bd.named Bd.method).1
  have X0 : Stand p l e ({ frames := 0, cells := 0, slots := 0, locals := 0 } : Room) s m #[(.ref a1)] below meth c s₁ [] 0 0 := Stand.of_body Bd
  have e0 : s₁.heap = h0 := by rw [← hh, Bd.state]; rfl
  have N0 := Fr.nil n0
  obtain ⟨S0, hS0⟩ : ∃ z, z = s₁.setTop (entryFrame m #[(.ref a1)] 1) := ⟨_, rfl⟩
  have pre0 : own_Go p e below S0 (s₁.setTop (mkF m 0 #[.val (.ref a1)] [])) := fun t k => by rw [hS0]; exact castTop (ef_20 m a1) k
  have fin : ∀ t, Steps p.tables e below S0 t → Steps p.tables e below (s₁.setTop (entryFrame m #[(.ref a1)] 1)) t := fun t k => by rw [hS0] at k; exact k
  have pre1 : own_Go p e below S0 (s₁.setTop (mkF m 1 #[.val (.ref a1)] [(.ref a1)])) := by
    intro t kt
    refine pre0 t ?_
    refine XS.aloadN X0.here hx rfl (hb hby d20_0) rfl rfl ?_
    show Steps p.tables e below (s₁.setTop (mkF m 1 #[.val (.ref a1)] [(.ref a1)])) _
    exact kt
  obtain ⟨T2, X2, e2, st2⟩ := getF X0 hx hZ hown (host := "") (Or.inl (hw _ (own_w 58 rfl))) Via.refl e0 xF1 (g := (mkF m 1 #[.val (.ref a1)] [(.ref a1)])) rfl rfl (hb hby d20_1)
  have pre3 : own_Go p e below S0 (T2.setTop (mkF m 4 #[.val (.ref a1)] [w1])) := by
    intro t kt
    refine pre1 t ?_
    refine st2 _ ?_
    show Steps p.tables e below (T2.setTop (mkF m 4 #[.val (.ref a1)] [w1])) _
    exact kt
  obtain ⟨fs, hr, hrun, hended, hW, hsame⟩ := X2.leave (v := some w1) (fun h => by rw [Bd.returns] at h; cases h)
  refine ⟨_, _, fin _ (pre3 _ ?_), hrun, hended, _, _, rfl, ?_, ⟨_, rfl⟩, hW, hsame.mono (by decide) (by decide)⟩
  · exact own_retR X2 hx Bd.returns rfl r_w1 (hb hby d20_4) hr
  · show Q20 Z a1 w1 h0 n0 _ T2.heap _
    rw [e2]
    exact ⟨rfl, N0, rfl⟩

theorem d21_0 : decode prog_72_method_18_code 0 = .ok (.aload_n 0, 1) := by decide +kernel
theorem d21_1 : decode prog_72_method_18_code 1 = .ok (.getfield 28, 3) := by decide +kernel
theorem d21_4 : decode prog_72_method_18_code 4 = .ok (.areturn, 1) := by decide +kernel
theorem pn_21 : plainName "com/example/refertario/refertario/store/Episode" = true := by first | (simp [plainName, overriddenIn]; done) | decide +kernel
theorem ef_21 (m : MethodId) (x0 : Addr) : entryFrame m #[(.ref x0)] 1 = mkF m 0 #[.val (.ref x0)] [] := by first | (simp [entryFrame, mkF, argsToLocals, Value.category]; done) | rfl
def Q21 (Z : State) (a1 : Addr) (w1 : Value) (h0 : Heap) (n0 : Nat) (v : Option Value) (h : Heap) (L : List Loc) : Prop := v = (some w1) ∧ Fr n0 L ∧ h = h0
set_option maxRecDepth 65536 in
set_option maxHeartbeats 40000000 in
theorem rm21 (l : Launch) (Z : State) (a0 : Array Value) (hw : ∀ d ∈ tables_1, d.before a0 Z = true) (ws : List Jvm.Cond) (a1 : Addr) (w1 : Value) (h0 : Heap) (n0 : Nat) (Z0 : n0 ≤ h0.size) (xF1 : Fld Z h0 a1 "com/example/refertario/refertario/store/Episode" "admitted" "Ljava/lang/String;" w1) (r_w1 : (w1.isRef = true)) :
    MetFree l (⟨"com/example/refertario/refertario/store/Episode", "admitted", "()Ljava/lang/String;"⟩ : MethodName) (head1 (Jvm.Cond.code (⟨"com/example/refertario/refertario/store/Episode", "admitted", "()Ljava/lang/String;"⟩ : MethodName) prog_72_method_18_code 1 (some (.object "java/lang/String")) :: ws) ({ frames := 0, cells := 0, slots := 0, locals := 0 } : Room)) (fun a U => a = #[(.ref a1)] ∧ Z.Warmed39 U.vm ∧ U.heap = h0) (fun _ _ _ _ _ => True) (fun _ U o U' => ∃ v L, o = .returned v ∧ Q21 Z a1 w1 h0 n0 v U'.heap L ∧ FrameEnd U o U' L ({ frames := 0, cells := 0, slots := 0, locals := 0 } : Room).cells ({ frames := 0, cells := 0, slots := 0, locals := 0 } : Room).slots) := by
  refine MetFree.of_bodySF (plainFor_of_name pn_21) hisR ?_
  intro p e s m args below meth c s₁ Bd hml0 hP hK
  obtain ⟨rfl, hZ, hh⟩ := hP
  have hx := Bd.exec
  have hby := Bd.bytes
  have hml : c.maxLocals = 1 := hml0
  have hown0 := findClass_of_methodNamed Bd.named
  have hown : s.vm.findClass "com/example/refertario/refertario/store/Episode" = some m.cls := hown0
  have hnm := (name_of_methodNamed Bd.named Bd.method).1
  have X0 : Stand p l e ({ frames := 0, cells := 0, slots := 0, locals := 0 } : Room) s m #[(.ref a1)] below meth c s₁ [] 0 0 := Stand.of_body Bd
  have e0 : s₁.heap = h0 := by rw [← hh, Bd.state]; rfl
  have N0 := Fr.nil n0
  obtain ⟨S0, hS0⟩ : ∃ z, z = s₁.setTop (entryFrame m #[(.ref a1)] 1) := ⟨_, rfl⟩
  have pre0 : own_Go p e below S0 (s₁.setTop (mkF m 0 #[.val (.ref a1)] [])) := fun t k => by rw [hS0]; exact castTop (ef_21 m a1) k
  have fin : ∀ t, Steps p.tables e below S0 t → Steps p.tables e below (s₁.setTop (entryFrame m #[(.ref a1)] 1)) t := fun t k => by rw [hS0] at k; exact k
  have pre1 : own_Go p e below S0 (s₁.setTop (mkF m 1 #[.val (.ref a1)] [(.ref a1)])) := by
    intro t kt
    refine pre0 t ?_
    refine XS.aloadN X0.here hx rfl (hb hby d21_0) rfl rfl ?_
    show Steps p.tables e below (s₁.setTop (mkF m 1 #[.val (.ref a1)] [(.ref a1)])) _
    exact kt
  obtain ⟨T2, X2, e2, st2⟩ := getF X0 hx hZ hown (host := "") (Or.inl (hw _ (own_w 60 rfl))) Via.refl e0 xF1 (g := (mkF m 1 #[.val (.ref a1)] [(.ref a1)])) rfl rfl (hb hby d21_1)
  have pre3 : own_Go p e below S0 (T2.setTop (mkF m 4 #[.val (.ref a1)] [w1])) := by
    intro t kt
    refine pre1 t ?_
    refine st2 _ ?_
    show Steps p.tables e below (T2.setTop (mkF m 4 #[.val (.ref a1)] [w1])) _
    exact kt
  obtain ⟨fs, hr, hrun, hended, hW, hsame⟩ := X2.leave (v := some w1) (fun h => by rw [Bd.returns] at h; cases h)
  refine ⟨_, _, fin _ (pre3 _ ?_), hrun, hended, _, _, rfl, ?_, ⟨_, rfl⟩, hW, hsame.mono (by decide) (by decide)⟩
  · exact own_retR X2 hx Bd.returns rfl r_w1 (hb hby d21_4) hr
  · show Q21 Z a1 w1 h0 n0 _ T2.heap _
    rw [e2]
    exact ⟨rfl, N0, rfl⟩

theorem d22_0 : decode prog_72_method_19_code 0 = .ok (.aload_n 0, 1) := by decide +kernel
theorem d22_1 : decode prog_72_method_19_code 1 = .ok (.getfield 31, 3) := by decide +kernel
theorem d22_4 : decode prog_72_method_19_code 4 = .ok (.areturn, 1) := by decide +kernel
theorem pn_22 : plainName "com/example/refertario/refertario/store/Episode" = true := by first | (simp [plainName, overriddenIn]; done) | decide +kernel
theorem ef_22 (m : MethodId) (x0 : Addr) : entryFrame m #[(.ref x0)] 1 = mkF m 0 #[.val (.ref x0)] [] := by first | (simp [entryFrame, mkF, argsToLocals, Value.category]; done) | rfl
def Q22 (Z : State) (a1 : Addr) (w1 : Value) (h0 : Heap) (n0 : Nat) (v : Option Value) (h : Heap) (L : List Loc) : Prop := v = (some w1) ∧ Fr n0 L ∧ h = h0
set_option maxRecDepth 65536 in
set_option maxHeartbeats 40000000 in
theorem rm22 (l : Launch) (Z : State) (a0 : Array Value) (hw : ∀ d ∈ tables_1, d.before a0 Z = true) (ws : List Jvm.Cond) (a1 : Addr) (w1 : Value) (h0 : Heap) (n0 : Nat) (Z0 : n0 ≤ h0.size) (xF1 : Fld Z h0 a1 "com/example/refertario/refertario/store/Episode" "discharged" "Ljava/lang/String;" w1) (r_w1 : (w1.isRef = true)) :
    MetFree l (⟨"com/example/refertario/refertario/store/Episode", "discharged", "()Ljava/lang/String;"⟩ : MethodName) (head1 (Jvm.Cond.code (⟨"com/example/refertario/refertario/store/Episode", "discharged", "()Ljava/lang/String;"⟩ : MethodName) prog_72_method_19_code 1 (some (.object "java/lang/String")) :: ws) ({ frames := 0, cells := 0, slots := 0, locals := 0 } : Room)) (fun a U => a = #[(.ref a1)] ∧ Z.Warmed39 U.vm ∧ U.heap = h0) (fun _ _ _ _ _ => True) (fun _ U o U' => ∃ v L, o = .returned v ∧ Q22 Z a1 w1 h0 n0 v U'.heap L ∧ FrameEnd U o U' L ({ frames := 0, cells := 0, slots := 0, locals := 0 } : Room).cells ({ frames := 0, cells := 0, slots := 0, locals := 0 } : Room).slots) := by
  refine MetFree.of_bodySF (plainFor_of_name pn_22) hisR ?_
  intro p e s m args below meth c s₁ Bd hml0 hP hK
  obtain ⟨rfl, hZ, hh⟩ := hP
  have hx := Bd.exec
  have hby := Bd.bytes
  have hml : c.maxLocals = 1 := hml0
  have hown0 := findClass_of_methodNamed Bd.named
  have hown : s.vm.findClass "com/example/refertario/refertario/store/Episode" = some m.cls := hown0
  have hnm := (name_of_methodNamed Bd.named Bd.method).1
  have X0 : Stand p l e ({ frames := 0, cells := 0, slots := 0, locals := 0 } : Room) s m #[(.ref a1)] below meth c s₁ [] 0 0 := Stand.of_body Bd
  have e0 : s₁.heap = h0 := by rw [← hh, Bd.state]; rfl
  have N0 := Fr.nil n0
  obtain ⟨S0, hS0⟩ : ∃ z, z = s₁.setTop (entryFrame m #[(.ref a1)] 1) := ⟨_, rfl⟩
  have pre0 : own_Go p e below S0 (s₁.setTop (mkF m 0 #[.val (.ref a1)] [])) := fun t k => by rw [hS0]; exact castTop (ef_22 m a1) k
  have fin : ∀ t, Steps p.tables e below S0 t → Steps p.tables e below (s₁.setTop (entryFrame m #[(.ref a1)] 1)) t := fun t k => by rw [hS0] at k; exact k
  have pre1 : own_Go p e below S0 (s₁.setTop (mkF m 1 #[.val (.ref a1)] [(.ref a1)])) := by
    intro t kt
    refine pre0 t ?_
    refine XS.aloadN X0.here hx rfl (hb hby d22_0) rfl rfl ?_
    show Steps p.tables e below (s₁.setTop (mkF m 1 #[.val (.ref a1)] [(.ref a1)])) _
    exact kt
  obtain ⟨T2, X2, e2, st2⟩ := getF X0 hx hZ hown (host := "") (Or.inl (hw _ (own_w 62 rfl))) Via.refl e0 xF1 (g := (mkF m 1 #[.val (.ref a1)] [(.ref a1)])) rfl rfl (hb hby d22_1)
  have pre3 : own_Go p e below S0 (T2.setTop (mkF m 4 #[.val (.ref a1)] [w1])) := by
    intro t kt
    refine pre1 t ?_
    refine st2 _ ?_
    show Steps p.tables e below (T2.setTop (mkF m 4 #[.val (.ref a1)] [w1])) _
    exact kt
  obtain ⟨fs, hr, hrun, hended, hW, hsame⟩ := X2.leave (v := some w1) (fun h => by rw [Bd.returns] at h; cases h)
  refine ⟨_, _, fin _ (pre3 _ ?_), hrun, hended, _, _, rfl, ?_, ⟨_, rfl⟩, hW, hsame.mono (by decide) (by decide)⟩
  · exact own_retR X2 hx Bd.returns rfl r_w1 (hb hby d22_4) hr
  · show Q22 Z a1 w1 h0 n0 _ T2.heap _
    rw [e2]
    exact ⟨rfl, N0, rfl⟩

theorem d23_0 : decode prog_72_method_20_code 0 = .ok (.aload_n 0, 1) := by decide +kernel
theorem d23_1 : decode prog_72_method_20_code 1 = .ok (.getfield 34, 3) := by decide +kernel
theorem d23_4 : decode prog_72_method_20_code 4 = .ok (.areturn, 1) := by decide +kernel
theorem pn_23 : plainName "com/example/refertario/refertario/store/Episode" = true := by first | (simp [plainName, overriddenIn]; done) | decide +kernel
theorem ef_23 (m : MethodId) (x0 : Addr) : entryFrame m #[(.ref x0)] 1 = mkF m 0 #[.val (.ref x0)] [] := by first | (simp [entryFrame, mkF, argsToLocals, Value.category]; done) | rfl
def Q23 (Z : State) (a1 : Addr) (w1 : Value) (h0 : Heap) (n0 : Nat) (v : Option Value) (h : Heap) (L : List Loc) : Prop := v = (some w1) ∧ Fr n0 L ∧ h = h0
set_option maxRecDepth 65536 in
set_option maxHeartbeats 40000000 in
theorem rm23 (l : Launch) (Z : State) (a0 : Array Value) (hw : ∀ d ∈ tables_1, d.before a0 Z = true) (ws : List Jvm.Cond) (a1 : Addr) (w1 : Value) (h0 : Heap) (n0 : Nat) (Z0 : n0 ≤ h0.size) (xF1 : Fld Z h0 a1 "com/example/refertario/refertario/store/Episode" "status" "Lcom/example/refertario/refertario/store/Episode$Status;" w1) (r_w1 : (w1.isRef = true)) :
    MetFree l (⟨"com/example/refertario/refertario/store/Episode", "status", "()Lcom/example/refertario/refertario/store/Episode$Status;"⟩ : MethodName) (head1 (Jvm.Cond.code (⟨"com/example/refertario/refertario/store/Episode", "status", "()Lcom/example/refertario/refertario/store/Episode$Status;"⟩ : MethodName) prog_72_method_20_code 1 (some (.object "com/example/refertario/refertario/store/Episode$Status")) :: ws) ({ frames := 0, cells := 0, slots := 0, locals := 0 } : Room)) (fun a U => a = #[(.ref a1)] ∧ Z.Warmed39 U.vm ∧ U.heap = h0) (fun _ _ _ _ _ => True) (fun _ U o U' => ∃ v L, o = .returned v ∧ Q23 Z a1 w1 h0 n0 v U'.heap L ∧ FrameEnd U o U' L ({ frames := 0, cells := 0, slots := 0, locals := 0 } : Room).cells ({ frames := 0, cells := 0, slots := 0, locals := 0 } : Room).slots) := by
  refine MetFree.of_bodySF (plainFor_of_name pn_23) hisR ?_
  intro p e s m args below meth c s₁ Bd hml0 hP hK
  obtain ⟨rfl, hZ, hh⟩ := hP
  have hx := Bd.exec
  have hby := Bd.bytes
  have hml : c.maxLocals = 1 := hml0
  have hown0 := findClass_of_methodNamed Bd.named
  have hown : s.vm.findClass "com/example/refertario/refertario/store/Episode" = some m.cls := hown0
  have hnm := (name_of_methodNamed Bd.named Bd.method).1
  have X0 : Stand p l e ({ frames := 0, cells := 0, slots := 0, locals := 0 } : Room) s m #[(.ref a1)] below meth c s₁ [] 0 0 := Stand.of_body Bd
  have e0 : s₁.heap = h0 := by rw [← hh, Bd.state]; rfl
  have N0 := Fr.nil n0
  obtain ⟨S0, hS0⟩ : ∃ z, z = s₁.setTop (entryFrame m #[(.ref a1)] 1) := ⟨_, rfl⟩
  have pre0 : own_Go p e below S0 (s₁.setTop (mkF m 0 #[.val (.ref a1)] [])) := fun t k => by rw [hS0]; exact castTop (ef_23 m a1) k
  have fin : ∀ t, Steps p.tables e below S0 t → Steps p.tables e below (s₁.setTop (entryFrame m #[(.ref a1)] 1)) t := fun t k => by rw [hS0] at k; exact k
  have pre1 : own_Go p e below S0 (s₁.setTop (mkF m 1 #[.val (.ref a1)] [(.ref a1)])) := by
    intro t kt
    refine pre0 t ?_
    refine XS.aloadN X0.here hx rfl (hb hby d23_0) rfl rfl ?_
    show Steps p.tables e below (s₁.setTop (mkF m 1 #[.val (.ref a1)] [(.ref a1)])) _
    exact kt
  obtain ⟨T2, X2, e2, st2⟩ := getF X0 hx hZ hown (host := "") (Or.inl (hw _ (own_w 64 rfl))) Via.refl e0 xF1 (g := (mkF m 1 #[.val (.ref a1)] [(.ref a1)])) rfl rfl (hb hby d23_1)
  have pre3 : own_Go p e below S0 (T2.setTop (mkF m 4 #[.val (.ref a1)] [w1])) := by
    intro t kt
    refine pre1 t ?_
    refine st2 _ ?_
    show Steps p.tables e below (T2.setTop (mkF m 4 #[.val (.ref a1)] [w1])) _
    exact kt
  obtain ⟨fs, hr, hrun, hended, hW, hsame⟩ := X2.leave (v := some w1) (fun h => by rw [Bd.returns] at h; cases h)
  refine ⟨_, _, fin _ (pre3 _ ?_), hrun, hended, _, _, rfl, ?_, ⟨_, rfl⟩, hW, hsame.mono (by decide) (by decide)⟩
  · exact own_retR X2 hx Bd.returns rfl r_w1 (hb hby d23_4) hr
  · show Q23 Z a1 w1 h0 n0 _ T2.heap _
    rw [e2]
    exact ⟨rfl, N0, rfl⟩

theorem d15_0 : decode jdk_42_method_66_code 0 = .ok (.aload_n 0, 1) := by decide +kernel
theorem d15_1 : decode jdk_42_method_66_code 1 = .ok (.aload_n 1, 1) := by decide +kernel
theorem d15_2 : decode jdk_42_method_66_code 2 = .ok (.if_acmp .ne 5, 3) := by decide +kernel
theorem d15_5 : decode jdk_42_method_66_code 5 = .ok (.iconst 1, 1) := by decide +kernel
theorem d15_6 : decode jdk_42_method_66_code 6 = .ok (.ireturn, 1) := by decide +kernel
theorem pn_15 : plainName "java/lang/String" = true := by first | (simp [plainName, overriddenIn]; done) | decide +kernel
theorem ef_15 (m : MethodId) (x0 : Addr) (x1 : Addr) : entryFrame m #[(.ref x0), (.ref x1)] 3 = mkF m 0 #[.val (.ref x0), .val (.ref x1), .unset] [] := by first | (simp [entryFrame, mkF, argsToLocals, Value.category]; done) | rfl
def Q15 (Z : State) (a1 : Addr) (h0 : Heap) (n0 : Nat) (v : Option Value) (h : Heap) (L : List Loc) : Prop := v = (some (.int (1 : Int32))) ∧ Fr n0 L ∧ h = h0
set_option maxRecDepth 65536 in
set_option maxHeartbeats 40000000 in
theorem rm15 (l : Launch) (Z : State) (a0 : Array Value) (hw : ∀ d ∈ tables_1, d.before a0 Z = true) (ws : List Jvm.Cond) (a1 : Addr) (h0 : Heap) (n0 : Nat) (Z0 : n0 ≤ h0.size) :
    MetFree l (⟨"java/lang/String", "equals", "(Ljava/lang/Object;)Z"⟩ : MethodName) (head1 (Jvm.Cond.code (⟨"java/lang/String", "equals", "(Ljava/lang/Object;)Z"⟩ : MethodName) jdk_42_method_66_code 3 (some .boolean) :: ws) ({ frames := 0, cells := 0, slots := 0, locals := 0 } : Room)) (fun a U => a = #[(.ref a1), (.ref a1)] ∧ Z.Warmed39 U.vm ∧ U.heap = h0) (fun _ _ _ _ _ => True) (fun _ U o U' => ∃ v L, o = .returned v ∧ Q15 Z a1 h0 n0 v U'.heap L ∧ FrameEnd U o U' L ({ frames := 0, cells := 0, slots := 0, locals := 0 } : Room).cells ({ frames := 0, cells := 0, slots := 0, locals := 0 } : Room).slots) := by
  refine MetFree.of_bodySF (plainFor_of_name pn_15) hisR ?_
  intro p e s m args below meth c s₁ Bd hml0 hP hK
  obtain ⟨rfl, hZ, hh⟩ := hP
  have hx := Bd.exec
  have hby := Bd.bytes
  have hml : c.maxLocals = 3 := hml0
  have hown0 := findClass_of_methodNamed Bd.named
  have hown : s.vm.findClass "java/lang/String" = some m.cls := hown0
  have hnm := (name_of_methodNamed Bd.named Bd.method).1
  have X0 : Stand p l e ({ frames := 0, cells := 0, slots := 0, locals := 0 } : Room) s m #[(.ref a1), (.ref a1)] below meth c s₁ [] 0 0 := Stand.of_body Bd
  have e0 : s₁.heap = h0 := by rw [← hh, Bd.state]; rfl
  have N0 := Fr.nil n0
  obtain ⟨S0, hS0⟩ : ∃ z, z = s₁.setTop (entryFrame m #[(.ref a1), (.ref a1)] 3) := ⟨_, rfl⟩
  have pre0 : own_Go p e below S0 (s₁.setTop (mkF m 0 #[.val (.ref a1), .val (.ref a1), .unset] [])) := fun t k => by rw [hS0]; exact castTop (ef_15 m a1 a1) k
  have fin : ∀ t, Steps p.tables e below S0 t → Steps p.tables e below (s₁.setTop (entryFrame m #[(.ref a1), (.ref a1)] 3)) t := fun t k => by rw [hS0] at k; exact k
  have pre1 : own_Go p e below S0 (s₁.setTop (mkF m 6 #[.val (.ref a1), .val (.ref a1), .unset] [(.int (1 : Int32))])) := by
    intro t kt
    refine pre0 t ?_
    refine XS.aloadN X0.here hx rfl (hb hby d15_0) rfl rfl ?_
    show Steps p.tables e below (s₁.setTop (mkF m 1 #[.val (.ref a1), .val (.ref a1), .unset] [(.ref a1)])) _
    refine XS.aloadN X0.here hx rfl (hb hby d15_1) rfl rfl ?_
    show Steps p.tables e below (s₁.setTop (mkF m 2 #[.val (.ref a1), .val (.ref a1), .unset] [(.ref a1), (.ref a1)])) _
    refine Jvm.RoadKit.acmp (g := (mkF m 2 #[.val (.ref a1), .val (.ref a1), .unset] [(.ref a1), (.ref a1)])) X0 hx rfl rfl rfl (pc0 := 2) (pc' := 5) (same := true) rfl (hb hby d15_2) rfl (decide_eq_true rfl) (by decide) (by decide) ?_
    show Steps p.tables e below (s₁.setTop (mkF m 5 #[.val (.ref a1), .val (.ref a1), .unset] [])) _
    refine XS.iconst X0.here hx rfl (hb hby d15_5) ?_
    show Steps p.tables e below (s₁.setTop (mkF m 6 #[.val (.ref a1), .val (.ref a1), .unset] [(.int (1 : Int32))])) _
    exact kt
  obtain ⟨fs, hr, hrun, hended, hW, hsame⟩ := X0.leave (v := some (.int (1 : Int32))) (fun h => by rw [Bd.returns] at h; cases h)
  refine ⟨_, _, fin _ (pre1 _ ?_), hrun, hended, _, _, rfl, ?_, ⟨_, rfl⟩, hW, hsame.mono (by decide) (by decide)⟩
  · exact retN X0 hx (t := .boolean) Bd.returns (by simp) (hb hby d15_6) hr
  · show Q15 Z a1 h0 n0 _ s₁.heap _
    rw [e0]
    exact ⟨rfl, N0, rfl⟩

theorem d14_0 : decode method_5_code 0 = .ok (.aload_n 0, 1) := by decide +kernel
theorem d14_1 : decode method_5_code 1 = .ok (.ifnonnull 13, 3) := by decide +kernel
theorem d14_4 : decode method_5_code 4 = .ok (.aload_n 1, 1) := by decide +kernel
theorem d14_5 : decode method_5_code 5 = .ok (.ifnonnull 7, 3) := by decide +kernel
theorem d14_8 : decode method_5_code 8 = .ok (.iconst 1, 1) := by decide +kernel
theorem d14_9 : decode method_5_code 9 = .ok (.goto 4, 3) := by decide +kernel
theorem d14_13 : decode method_5_code 13 = .ok (.ireturn, 1) := by decide +kernel
theorem d14_14 : decode method_5_code 14 = .ok (.aload_n 1, 1) := by decide +kernel
theorem d14_15 : decode method_5_code 15 = .ok (.ifnull 15, 3) := by decide +kernel
theorem d14_18 : decode method_5_code 18 = .ok (.aload_n 0, 1) := by decide +kernel
theorem d14_19 : decode method_5_code 19 = .ok (.aload_n 1, 1) := by decide +kernel
theorem d14_20 : decode method_5_code 20 = .ok (.invokevirtual 76, 3) := by decide +kernel
theorem d14_23 : decode method_5_code 23 = .ok (.ifCond .eq 7, 3) := by decide +kernel
theorem d14_26 : decode method_5_code 26 = .ok (.iconst 1, 1) := by decide +kernel
theorem d14_27 : decode method_5_code 27 = .ok (.goto 4, 3) := by decide +kernel
theorem d14_31 : decode method_5_code 31 = .ok (.ireturn, 1) := by decide +kernel
theorem pn_14 : plainName "com/example/refertario/refertario/store/EpisodeAdmittedAsPinLaw" = true := by first | (simp [plainName, overriddenIn]; done) | decide +kernel
theorem pd_8 : parseMethodDescriptor "(Ljava/lang/Object;)Z" = some ⟨[(.object "java/lang/Object")], some .boolean⟩ := by decide +kernel
theorem ef_14 (m : MethodId) (x0 : Value) (x1 : Value) (y0 : x0.isRef = true) (y1 : x1.isRef = true) : entryFrame m #[x0, x1] 2 = mkF m 0 #[.val x0, .val x1] [] := by first | (simp [entryFrame, mkF, argsToLocals, own_catR, own_catI, own_cat y0, own_cat y1]; done) | rfl
def Q14 (Z : State) (v1 : Value) (h0 : Heap) (n0 : Nat) (v : Option Value) (h : Heap) (L : List Loc) : Prop := v = (some (.int (1 : Int32))) ∧ Fr n0 L ∧ h = h0
set_option maxRecDepth 65536 in
set_option maxHeartbeats 40000000 in
theorem rm14 (l : Launch) (Z : State) (a0 : Array Value) (hw : ∀ d ∈ tables_1, d.before a0 Z = true) (ws : List Jvm.Cond) (v1 : Value) (h0 : Heap) (n0 : Nat) (Z0 : n0 ≤ h0.size) (r_v1 : (v1.isRef = true)) (o1 : own_OR Z h0 v1 ) :
    MetFree l (⟨"com/example/refertario/refertario/store/EpisodeAdmittedAsPinLaw", "eq", "(Ljava/lang/String;Ljava/lang/String;)Z"⟩ : MethodName) (head1 (Jvm.Cond.code (⟨"com/example/refertario/refertario/store/EpisodeAdmittedAsPinLaw", "eq", "(Ljava/lang/String;Ljava/lang/String;)Z"⟩ : MethodName) method_5_code 2 (some .boolean) :: ws) ({ frames := 1, cells := 0, slots := 0, locals := 14 } : Room)) (fun a U => a = #[v1, v1] ∧ Z.Warmed39 U.vm ∧ U.heap = h0) (fun _ _ _ _ _ => True) (fun _ U o U' => ∃ v L, o = .returned v ∧ Q14 Z v1 h0 n0 v U'.heap L ∧ FrameEnd U o U' L ({ frames := 1, cells := 0, slots := 0, locals := 14 } : Room).cells ({ frames := 1, cells := 0, slots := 0, locals := 14 } : Room).slots) := by
  refine MetFree.of_bodySF (plainFor_of_name pn_14) hisR ?_
  intro p e s m args below meth c s₁ Bd hml0 hP hK
  obtain ⟨rfl, hZ, hh⟩ := hP
  have hx := Bd.exec
  have hby := Bd.bytes
  have hml : c.maxLocals = 2 := hml0
  have hown0 := findClass_of_methodNamed Bd.named
  have hown : s.vm.findClass "com/example/refertario/refertario/store/EpisodeAdmittedAsPinLaw" = some m.cls := hown0
  have hnm := (name_of_methodNamed Bd.named Bd.method).1
  have X0 : Stand p l e ({ frames := 1, cells := 0, slots := 0, locals := 14 } : Room) s m #[v1, v1] below meth c s₁ [] 0 0 := Stand.of_body Bd
  have e0 : s₁.heap = h0 := by rw [← hh, Bd.state]; rfl
  have N0 := Fr.nil n0
  obtain ⟨S0, hS0⟩ : ∃ z, z = s₁.setTop (entryFrame m #[v1, v1] 2) := ⟨_, rfl⟩
  have pre0 : own_Go p e below S0 (s₁.setTop (mkF m 0 #[.val v1, .val v1] [])) := fun t k => by rw [hS0]; exact castTop (ef_14 m v1 v1 r_v1 r_v1) k
  have fin : ∀ t, Steps p.tables e below S0 t → Steps p.tables e below (s₁.setTop (entryFrame m #[v1, v1] 2)) t := fun t k => by rw [hS0] at k; exact k
  obtain hv1 | ⟨av2, hv1⟩ := ref_cases r_v1
  · have pre3 : own_Go p e below S0 (s₁.setTop (mkF m 0 #[.val .null, .val .null] [])) := by
      intro t kt
      refine pre0 t ?_
      exact castTop (by rw [hv1]) kt
    have pre4 : own_Go p e below S0 (s₁.setTop (mkF m 13 #[.val .null, .val .null] [(.int (1 : Int32))])) := by
      intro t kt
      refine pre3 t ?_
      refine XS.aloadN X0.here hx rfl (hb hby d14_0) rfl rfl ?_
      show Steps p.tables e below (s₁.setTop (mkF m 1 #[.val .null, .val .null] [.null])) _
      refine XS.ifnonnullNo X0.here hx rfl (hb hby d14_1) rfl ?_
      show Steps p.tables e below (s₁.setTop (mkF m 4 #[.val .null, .val .null] [])) _
      refine XS.aloadN X0.here hx rfl (hb hby d14_4) rfl rfl ?_
      show Steps p.tables e below (s₁.setTop (mkF m 5 #[.val .null, .val .null] [.null])) _
      refine XS.ifnonnullNo X0.here hx rfl (hb hby d14_5) rfl ?_
      show Steps p.tables e below (s₁.setTop (mkF m 8 #[.val .null, .val .null] [])) _
      refine XS.iconst X0.here hx rfl (hb hby d14_8) ?_
      show Steps p.tables e below (s₁.setTop (mkF m 9 #[.val .null, .val .null] [(.int (1 : Int32))])) _
      refine XS.goto X0.here hx rfl (pc0 := 9) (pc' := 13) rfl (hb hby d14_9) (by decide) (by decide) ?_
      show Steps p.tables e below (s₁.setTop (mkF m 13 #[.val .null, .val .null] [(.int (1 : Int32))])) _
      exact kt
    obtain ⟨fs, hr, hrun, hended, hW, hsame⟩ := X0.leave (v := some (.int (1 : Int32))) (fun h => by rw [Bd.returns] at h; cases h)
    refine ⟨_, _, fin _ (pre4 _ ?_), hrun, hended, _, _, rfl, ?_, ⟨_, rfl⟩, hW, hsame.mono (by decide) (by decide)⟩
    · exact retN X0 hx (t := .boolean) Bd.returns (by simp) (hb hby d14_13) hr
    · show Q14 Z v1 h0 n0 _ s₁.heap _
      rw [e0]
      exact ⟨rfl, N0, rfl⟩
  · have pre5 : own_Go p e below S0 (s₁.setTop (mkF m 0 #[.val (.ref av2), .val (.ref av2)] [])) := by
      intro t kt
      refine pre0 t ?_
      exact castTop (by rw [hv1]) kt
    have ex1 : Exa Z h0 av2 "java/lang/String" := o1.2 _ hv1
    have pre6 : own_Go p e below S0 (s₁.setTop (mkF m 20 #[.val (.ref av2), .val (.ref av2)] [(.ref av2), (.ref av2)])) := by
      intro t kt
      refine pre5 t ?_
      refine XS.aloadN X0.here hx rfl (hb hby d14_0) rfl rfl ?_
      show Steps p.tables e below (s₁.setTop (mkF m 1 #[.val (.ref av2), .val (.ref av2)] [(.ref av2)])) _
      refine XS.ifnonnullYes X0.here hx rfl (pc0 := 1) (pc' := 14) rfl (hb hby d14_1) rfl (by decide) (by decide) ?_
      show Steps p.tables e below (s₁.setTop (mkF m 14 #[.val (.ref av2), .val (.ref av2)] [])) _
      refine XS.aloadN X0.here hx rfl (hb hby d14_14) rfl rfl ?_
      show Steps p.tables e below (s₁.setTop (mkF m 15 #[.val (.ref av2), .val (.ref av2)] [(.ref av2)])) _
      refine XS.ifnullNo X0.here hx rfl (hb hby d14_15) rfl ?_
      show Steps p.tables e below (s₁.setTop (mkF m 18 #[.val (.ref av2), .val (.ref av2)] [])) _
      refine XS.aloadN X0.here hx rfl (hb hby d14_18) rfl rfl ?_
      show Steps p.tables e below (s₁.setTop (mkF m 19 #[.val (.ref av2), .val (.ref av2)] [(.ref av2)])) _
      refine XS.aloadN X0.here hx rfl (hb hby d14_19) rfl rfl ?_
      show Steps p.tables e below (s₁.setTop (mkF m 20 #[.val (.ref av2), .val (.ref av2)] [(.ref av2), (.ref av2)])) _
      exact kt
    obtain ⟨cq7, kq7, qa7, qb7, qc7⟩ := isOf hZ e0 ex1
    obtain ⟨_, _, ⟨T7, L7, k7, n7⟩, -, X7, ⟨Lc7, hQ7, l7, y7, z7⟩, st7⟩ := X0.virtualBack hx (y := (⟨"java/lang/String", "equals", "(Ljava/lang/Object;)Z"⟩ : MethodName)) (z := (⟨"java/lang/String", "equals", "(Ljava/lang/Object;)Z"⟩ : MethodName)) hown (mvT hZ (hw _ (own_w 88 rfl))) (mvT hZ (hw _ (own_w 89 rfl))) (notFace_of_selects (args := #[]) (mvT hZ (hw _ (own_w 91 rfl)))) (mvT hZ (hw _ (own_w 91 rfl))) (mvT hZ (hw _ (own_w 90 rfl))) (by decide) (backOf (W := 0) (rm15 l Z a0 hw [] av2 h0 n0 Z0 ) hZ (hw _ (own_w 92 rfl)) (hw _ (own_w 6 rfl)) (by decide) (by decide)) qa7 qc7 (g := (mkF m 20 #[.val (.ref av2), .val (.ref av2)] [(.ref av2), (.ref av2)])) rfl (by rw [hml]; rfl) (Steps.refl _) (argsL := [(.ref av2)]) (rest := []) (lenOf pd_8 rfl) rfl (by show 2 * 0 + _ ≤ _; exact Nat.le_of_eq rfl) (hb hby d14_20) (fun _ _ => ⟨rfl, e0, (by decide : 0 + 0 ≤ _), (by decide : 0 + 0 ≤ _)⟩)
    dsimp only [Pt.U, Pt.locs, Pt.cells, Pt.slots] at X7 l7 y7 z7 st7 hQ7
    subst l7 y7 z7
    obtain ⟨rfl, Nq7, eq7⟩ := hQ7
    have N7 := Fr.app N0 Nq7
    have pre8 : own_Go p e below S0 (T7.setTop (mkF m 31 #[.val (.ref av2), .val (.ref av2)] [(.int (1 : Int32))])) := by
      intro t kt
      refine pre6 t ?_
      refine st7.trans ?_
      show Steps p.tables e below (T7.setTop (mkF m 23 #[.val (.ref av2), .val (.ref av2)] [(.int (1 : Int32))])) _
      refine XS.ifNo X7.here hx rfl (hb hby d14_23) rfl ((if0 _ _).trans (feq (by decide : ¬ ((1 : Int32) = (0 : Int32)))).1) ?_
      show Steps p.tables e below (T7.setTop (mkF m 26 #[.val (.ref av2), .val (.ref av2)] [])) _
      refine XS.iconst X7.here hx rfl (hb hby d14_26) ?_
      show Steps p.tables e below (T7.setTop (mkF m 27 #[.val (.ref av2), .val (.ref av2)] [(.int (1 : Int32))])) _
      refine XS.goto X7.here hx rfl (pc0 := 27) (pc' := 31) rfl (hb hby d14_27) (by decide) (by decide) ?_
      show Steps p.tables e below (T7.setTop (mkF m 31 #[.val (.ref av2), .val (.ref av2)] [(.int (1 : Int32))])) _
      exact kt
    obtain ⟨fs, hr, hrun, hended, hW, hsame⟩ := X7.leave (v := some (.int (1 : Int32))) (fun h => by rw [Bd.returns] at h; cases h)
    refine ⟨_, _, fin _ (pre8 _ ?_), hrun, hended, _, _, rfl, ?_, ⟨_, rfl⟩, hW, hsame.mono (by decide) (by decide)⟩
    · exact retN X7 hx (t := .boolean) Bd.returns (by simp) (hb hby d14_31) hr
    · show Q14 Z v1 h0 n0 _ T7.heap _
      rw [eq7]
      exact ⟨rfl, N7, rfl⟩

theorem pn_0 : plainName "com/example/refertario/refertario/store/EpisodeAdmittedAsPinLaw" = true := by first | (simp [plainName, overriddenIn]; done) | decide +kernel
theorem pd_9 : parseMethodDescriptor "(II)Ljava/lang/String;" = some ⟨[.int, .int], some (.object "java/lang/String")⟩ := by decide +kernel
theorem pd_10 : parseMethodDescriptor "(I)Lcom/example/refertario/refertario/store/Episode$Status;" = some ⟨[.int], some (.object "com/example/refertario/refertario/store/Episode$Status")⟩ := by decide +kernel
theorem pd_11 : parseMethodDescriptor "(Lcom/example/refertario/refertario/store/Episode;)Lcom/example/refertario/refertario/store/Episode;" = some ⟨[(.object "com/example/refertario/refertario/store/Episode")], some (.object "com/example/refertario/refertario/store/Episode")⟩ := by decide +kernel
theorem pd_12 : parseMethodDescriptor "()Ljava/lang/String;" = some ⟨[], some (.object "java/lang/String")⟩ := by decide +kernel
theorem pd_13 : parseMethodDescriptor "(Ljava/lang/String;Ljava/lang/String;)Z" = some ⟨[(.object "java/lang/String"), (.object "java/lang/String")], some .boolean⟩ := by decide +kernel
theorem pd_14 : parseMethodDescriptor "()Lcom/example/refertario/refertario/store/Episode$Status;" = some ⟨[], some (.object "com/example/refertario/refertario/store/Episode$Status")⟩ := by decide +kernel
theorem ef_0 (m : MethodId) (x0 : Int32) (x1 : Int32) (x2 : Int32) (x3 : Int32) (x4 : Int32) (x5 : Int32) : entryFrame m #[(.int x0), (.int x1), (.int x2), (.int x3), (.int x4), (.int x5)] maxLocals = mkF m 0 #[.val (.int x0), .val (.int x1), .val (.int x2), .val (.int x3), .val (.int x4), .val (.int x5), .unset, .unset, .unset, .unset, .unset, .unset, .unset, .unset, .unset, .unset, .unset, .unset, .unset, .unset, .unset, .unset, .unset, .unset, .unset, .unset, .unset, .unset, .unset, .unset] [] := by first | (simp [entryFrame, mkF, argsToLocals, Value.category, maxLocals]; done) | rfl
def Q0 (Z : State) (p1 : Int32) (p2 : Int32) (p3 : Int32) (p4 : Int32) (p5 : Int32) (p6 : Int32) (wC : Int32) (wOPEN : Addr) (wCLOSED : Addr) (wCANCELLED : Addr) (h0 : Heap) (n0 : Nat) (v : Option Value) (h : Heap) (L : List Loc) : Prop := v = (some (.int 1)) ∧ Fr n0 L
set_option maxRecDepth 65536 in
set_option maxHeartbeats 40000000 in
theorem rm0 (l : Launch) (Z : State) (a0 : Array Value) (hw : ∀ d ∈ tables_1, d.before a0 Z = true) (ws : List Jvm.Cond) (p1 : Int32) (p2 : Int32) (p3 : Int32) (p4 : Int32) (p5 : Int32) (p6 : Int32) (wC : Int32) (wOPEN : Addr) (wCLOSED : Addr) (wCANCELLED : Addr) (h0 : Heap) (n0 : Nat) (Z0 : n0 ≤ h0.size) (O0 : Old Z n0 h0) (qC : (own_SC Z wC)) (SOPEN : Sta Z Z.heap "com/example/refertario/refertario/store/Episode$Status" "OPEN" "Lcom/example/refertario/refertario/store/Episode$Status;" (.ref wOPEN)) (SCLOSED : Sta Z Z.heap "com/example/refertario/refertario/store/Episode$Status" "CLOSED" "Lcom/example/refertario/refertario/store/Episode$Status;" (.ref wCLOSED)) (SCANCELLED : Sta Z Z.heap "com/example/refertario/refertario/store/Episode$Status" "CANCELLED" "Lcom/example/refertario/refertario/store/Episode$Status;" (.ref wCANCELLED)) :
    MetFree l x (head1 (Jvm.Cond.code x code maxLocals ret :: ws) room_1) (fun a U => a = #[(.int p1), (.int p2), (.int p3), (.int p4), (.int p5), (.int p6)] ∧ Z.Warmed39 U.vm ∧ U.heap = h0) (fun _ _ _ _ _ => True) (fun _ U o U' => ∃ v L, o = .returned v ∧ Q0 Z p1 p2 p3 p4 p5 p6 wC wOPEN wCLOSED wCANCELLED h0 n0 v U'.heap L ∧ FrameEnd U o U' L 35 107) := by
  refine MetFree.of_bodySF (plainFor_of_name pn_0) hisR ?_
  intro p e s m args below meth c s₁ Bd hml0 hP hK
  obtain ⟨rfl, hZ, hh⟩ := hP
  have hx := Bd.exec
  have hby := Bd.bytes
  have hml : c.maxLocals = 30 := hml0
  have hown0 := findClass_of_methodNamed Bd.named
  have hown : s.vm.findClass "com/example/refertario/refertario/store/EpisodeAdmittedAsPinLaw" = some m.cls := hown0
  have hnm := (name_of_methodNamed Bd.named Bd.method).1
  have X0 : Stand p l e room_1 s m #[(.int p1), (.int p2), (.int p3), (.int p4), (.int p5), (.int p6)] below meth c s₁ [] 0 0 := Stand.of_body Bd
  have e0 : s₁.heap = h0 := by rw [← hh, Bd.state]; rfl
  have N0 := Fr.nil n0
  obtain ⟨S0, hS0⟩ : ∃ z, z = s₁.setTop (entryFrame m #[(.int p1), (.int p2), (.int p3), (.int p4), (.int p5), (.int p6)] maxLocals) := ⟨_, rfl⟩
  have pre0 : own_Go p e below S0 (s₁.setTop (mkF m 0 #[.val (.int p1), .val (.int p2), .val (.int p3), .val (.int p4), .val (.int p5), .val (.int p6), .unset, .unset, .unset, .unset, .unset, .unset, .unset, .unset, .unset, .unset, .unset, .unset, .unset, .unset, .unset, .unset, .unset, .unset, .unset, .unset, .unset, .unset, .unset, .unset] [])) := fun t k => by rw [hS0]; exact castTop (ef_0 m p1 p2 p3 p4 p5 p6) k
  have fin : ∀ t, Steps p.tables e below S0 t → Steps p.tables e below (s₁.setTop (entryFrame m #[(.int p1), (.int p2), (.int p3), (.int p4), (.int p5), (.int p6)] maxLocals)) t := fun t k => by rw [hS0] at k; exact k
  obtain ⟨x6, x7, x8, x9, Tj1, lj1, hj1, Xj1, Nj1, ej1, Kj1, pj61, pj62, pj63, pj64, qj65, qj66, qj67, qj68, prej1⟩ : ∃ (x6 : Value) (x7 : Value) (x8 : Value) (x9 : Value) (Tj1 : State) (lj1 : List Loc) (hj1 : Heap), Stand p l e room_1 s m #[(.int p1), (.int p2), (.int p3), (.int p4), (.int p5), (.int p6)] below meth c Tj1 lj1 8 20 ∧ Fr n0 lj1 ∧ Tj1.heap = hj1 ∧ Keep h0 hj1 [] ∧ x6.isRef = true ∧ x7.isRef = true ∧ x8.isRef = true ∧ x9.isRef = true ∧ own_OR Z hj1 x6  ∧ own_OR Z hj1 x7  ∧ own_OR Z hj1 x8  ∧ own_OR Z hj1 x9  ∧ own_Go p e below S0 (Tj1.setTop (mkF m 42 #[.val (.int p1), .val (.int p2), .val (.int p3), .val (.int p4), .val (.int p5), .val (.int p6), .val x6, .val x7, .val x8, .val x9, .unset, .unset, .unset, .unset, .unset, .unset, .unset, .unset, .unset, .unset, .unset, .unset, .unset, .unset, .unset, .unset, .unset, .unset, .unset, .unset] [])) := by
    have kjj1 : Keep h0 h0 [] := Keep.refl _ _
    have pre2 : own_Go p e below S0 (s₁.setTop (mkF m 2 #[.val (.int p1), .val (.int p2), .val (.int p3), .val (.int p4), .val (.int p5), .val (.int p6), .unset, .unset, .unset, .unset, .unset, .unset, .unset, .unset, .unset, .unset, .unset, .unset, .unset, .unset, .unset, .unset, .unset, .unset, .unset, .unset, .unset, .unset, .unset, .unset] [(.int (0 : Int32)), (.int p1)])) := by
      intro t kt
      refine pre0 t ?_
      refine XS.iloadN X0.here hx rfl (hb hby at_0) rfl ?_
      show Steps p.tables e below (s₁.setTop (mkF m 1 #[.val (.int p1), .val (.int p2), .val (.int p3), .val (.int p4), .val (.int p5), .val (.int p6), .unset, .unset, .unset, .unset, .unset, .unset, .unset, .unset, .unset, .unset, .unset, .unset, .unset, .unset, .unset, .unset, .unset, .unset, .unset, .unset, .unset, .unset, .unset, .unset] [(.int p1)])) _
      refine XS.iconst X0.here hx rfl (hb hby at_1) ?_
      show Steps p.tables e below (s₁.setTop (mkF m 2 #[.val (.int p1), .val (.int p2), .val (.int p3), .val (.int p4), .val (.int p5), .val (.int p6), .unset, .unset, .unset, .unset, .unset, .unset, .unset, .unset, .unset, .unset, .unset, .unset, .unset, .unset, .unset, .unset, .unset, .unset, .unset, .unset, .unset, .unset, .unset, .unset] [(.int (0 : Int32)), (.int p1)])) _
      exact kt
    obtain ⟨_, _, ⟨T3, L3, k3, n3⟩, -, X3, ⟨Lc3, hQ3, l3, y3, z3⟩, st3⟩ := Jvm.LawKit.callS X0 hx (y := (⟨"com/example/refertario/refertario/store/EpisodeAdmittedAsPinLaw", "ch", "(II)Ljava/lang/String;"⟩ : MethodName)) hown (mvT hZ (hw _ (own_w 0 rfl))) (mvT hZ (hw _ (own_w 1 rfl))) (mvT hZ (hw _ (own_w 2 rfl))) (mvT hZ (hw _ (own_w 3 rfl))) (by decide) (backOf (W := 0) (rm1 l Z a0 hw [] p1 (0 : Int32) wC h0 n0 Z0 O0 qC) hZ (hw _ (own_w 3 rfl)) (hw _ (own_w 2 rfl)) (by decide) (by decide)) (g := (mkF m 2 #[.val (.int p1), .val (.int p2), .val (.int p3), .val (.int p4), .val (.int p5), .val (.int p6), .unset, .unset, .unset, .unset, .unset, .unset, .unset, .unset, .unset, .unset, .unset, .unset, .unset, .unset, .unset, .unset, .unset, .unset, .unset, .unset, .unset, .unset, .unset, .unset] [(.int (0 : Int32)), (.int p1)])) rfl (by rw [hml]; rfl) (argsL := [(.int p1), (.int (0 : Int32))]) (rest := []) (lenOf pd_9 rfl) rfl (by show 2 * 0 + _ ≤ _; exact Nat.le_of_eq rfl) (hb hby at_2) (fun _ _ => ⟨rfl, e0, (by decide : 0 + 2 ≤ _), (by decide : 0 + 5 ≤ _)⟩)
    dsimp only [Pt.U, Pt.locs, Pt.cells, Pt.slots] at X3 l3 y3 z3 st3 hQ3
    subst l3 y3 z3
    obtain ⟨b4, rfl, Nq3, K3, g5, g6⟩ := hQ3
    have N3 := Fr.app N0 Nq3
    have ge7 : n0 ≤ b4 := Nat.le_trans Z0 g5
    have sz8 : h0.size ≤ b4 := Nat.le_trans kjj1.1 g5
    have zs9 : n0 ≤ T3.heap.size := Nat.le_trans Z0 K3.1
    have kc10 : Keep h0 T3.heap [] := kjj1.trans K3 all0
    have oc11 : own_OR Z T3.heap (.ref b4) := own_OR.of g6
    have pre12 : own_Go p e below S0 (T3.setTop (mkF m 10 #[.val (.int p1), .val (.int p2), .val (.int p3), .val (.int p4), .val (.int p5), .val (.int p6), .val (.ref b4), .unset, .unset, .unset, .unset, .unset, .unset, .unset, .unset, .unset, .unset, .unset, .unset, .unset, .unset, .unset, .unset, .unset, .unset, .unset, .unset, .unset, .unset, .unset] [(.int (8 : Int32)), (.int p1)])) := by
      intro t kt
      refine pre2 t ?_
      refine st3 _ ?_
      show Steps p.tables e below (T3.setTop (mkF m 5 #[.val (.int p1), .val (.int p2), .val (.int p3), .val (.int p4), .val (.int p5), .val (.int p6), .unset, .unset, .unset, .unset, .unset, .unset, .unset, .unset, .unset, .unset, .unset, .unset, .unset, .unset, .unset, .unset, .unset, .unset, .unset, .unset, .unset, .unset, .unset, .unset] [(.ref b4)])) _
      refine XS.astore X3.here hx rfl (hb hby at_5) rfl rfl (l' := #[.val (.int p1), .val (.int p2), .val (.int p3), .val (.int p4), .val (.int p5), .val (.int p6), .val (.ref b4), .unset, .unset, .unset, .unset, .unset, .unset, .unset, .unset, .unset, .unset, .unset, .unset, .unset, .unset, .unset, .unset, .unset, .unset, .unset, .unset, .unset, .unset, .unset]) rfl ?_
      show Steps p.tables e below (T3.setTop (mkF m 7 #[.val (.int p1), .val (.int p2), .val (.int p3), .val (.int p4), .val (.int p5), .val (.int p6), .val (.ref b4), .unset, .unset, .unset, .unset, .unset, .unset, .unset, .unset, .unset, .unset, .unset, .unset, .unset, .unset, .unset, .unset, .unset, .unset, .unset, .unset, .unset, .unset, .unset] [])) _
      refine XS.iloadN X3.here hx rfl (hb hby at_7) rfl ?_
      show Steps p.tables e below (T3.setTop (mkF m 8 #[.val (.int p1), .val (.int p2), .val (.int p3), .val (.int p4), .val (.int p5), .val (.int p6), .val (.ref b4), .unset, .unset, .unset, .unset, .unset, .unset, .unset, .unset, .unset, .unset, .unset, .unset, .unset, .unset, .unset, .unset, .unset, .unset, .unset, .unset, .unset, .unset, .unset] [(.int p1)])) _
      refine XS.bipush X3.here hx rfl (hb hby at_8) ?_
      show Steps p.tables e below (T3.setTop (mkF m 10 #[.val (.int p1), .val (.int p2), .val (.int p3), .val (.int p4), .val (.int p5), .val (.int p6), .val (.ref b4), .unset, .unset, .unset, .unset, .unset, .unset, .unset, .unset, .unset, .unset, .unset, .unset, .unset, .unset, .unset, .unset, .unset, .unset, .unset, .unset, .unset, .unset, .unset] [(.int (8 : Int32)), (.int p1)])) _
      exact kt
    have f13 : Old Z n0 T3.heap := (O0.keep K3 all0)
    obtain ⟨_, _, ⟨T14, L14, k14, n14⟩, -, X14, ⟨Lc14, hQ14, l14, y14, z14⟩, st14⟩ := Jvm.LawKit.callS X3 hx (y := (⟨"com/example/refertario/refertario/store/EpisodeAdmittedAsPinLaw", "ch", "(II)Ljava/lang/String;"⟩ : MethodName)) hown (mvT hZ (hw _ (own_w 0 rfl))) (mvT hZ (hw _ (own_w 1 rfl))) (mvT hZ (hw _ (own_w 2 rfl))) (mvT hZ (hw _ (own_w 3 rfl))) (by decide) (backOf (W := 0) (rm1 l Z a0 hw [] p1 (8 : Int32) wC T3.heap n0 zs9 f13 qC) hZ (hw _ (own_w 3 rfl)) (hw _ (own_w 2 rfl)) (by decide) (by decide)) (g := (mkF m 10 #[.val (.int p1), .val (.int p2), .val (.int p3), .val (.int p4), .val (.int p5), .val (.int p6), .val (.ref b4), .unset, .unset, .unset, .unset, .unset, .unset, .unset, .unset, .unset, .unset, .unset, .unset, .unset, .unset, .unset, .unset, .unset, .unset, .unset, .unset, .unset, .unset, .unset] [(.int (8 : Int32)), (.int p1)])) rfl (by rw [hml]; rfl) (argsL := [(.int p1), (.int (8 : Int32))]) (rest := []) (lenOf pd_9 rfl) rfl (by show 2 * 0 + _ ≤ _; exact Nat.le_of_eq rfl) (hb hby at_10) (fun _ _ => ⟨rfl, rfl, (by decide : 2 + 2 ≤ _), (by decide : 5 + 5 ≤ _)⟩)
    dsimp only [Pt.U, Pt.locs, Pt.cells, Pt.slots] at X14 l14 y14 z14 st14 hQ14
    subst l14 y14 z14
    obtain ⟨b15, rfl, Nq14, K14, g16, g17⟩ := hQ14
    have N14 := Fr.app N3 Nq14
    have ge18 : n0 ≤ b15 := Nat.le_trans zs9 g16
    have sz19 : h0.size ≤ b15 := Nat.le_trans kc10.1 g16
    have zs20 : n0 ≤ T14.heap.size := Nat.le_trans zs9 K14.1
    have kc21 : Keep h0 T14.heap [] := kc10.trans K14 all0
    have oc22 : own_OR Z T14.heap (.ref b15) := own_OR.of g17
    have pre23 : own_Go p e below S0 (T14.setTop (mkF m 15 #[.val (.int p1), .val (.int p2), .val (.int p3), .val (.int p4), .val (.int p5), .val (.int p6), .val (.ref b4), .val (.ref b15), .unset, .unset, .unset, .unset, .unset, .unset, .unset, .unset, .unset, .unset, .unset, .unset, .unset, .unset, .unset, .unset, .unset, .unset, .unset, .unset, .unset, .unset] [])) := by
      intro t kt
      refine pre12 t ?_
      refine st14 _ ?_
      show Steps p.tables e below (T14.setTop (mkF m 13 #[.val (.int p1), .val (.int p2), .val (.int p3), .val (.int p4), .val (.int p5), .val (.int p6), .val (.ref b4), .unset, .unset, .unset, .unset, .unset, .unset, .unset, .unset, .unset, .unset, .unset, .unset, .unset, .unset, .unset, .unset, .unset, .unset, .unset, .unset, .unset, .unset, .unset] [(.ref b15)])) _
      refine XS.astore X14.here hx rfl (hb hby at_13) rfl rfl (l' := #[.val (.int p1), .val (.int p2), .val (.int p3), .val (.int p4), .val (.int p5), .val (.int p6), .val (.ref b4), .val (.ref b15), .unset, .unset, .unset, .unset, .unset, .unset, .unset, .unset, .unset, .unset, .unset, .unset, .unset, .unset, .unset, .unset, .unset, .unset, .unset, .unset, .unset, .unset]) rfl ?_
      show Steps p.tables e below (T14.setTop (mkF m 15 #[.val (.int p1), .val (.int p2), .val (.int p3), .val (.int p4), .val (.int p5), .val (.int p6), .val (.ref b4), .val (.ref b15), .unset, .unset, .unset, .unset, .unset, .unset, .unset, .unset, .unset, .unset, .unset, .unset, .unset, .unset, .unset, .unset, .unset, .unset, .unset, .unset, .unset, .unset] [])) _
      exact kt
    obtain ⟨x32, Tj24, lj24, hj24, Xj24, Nj24, ej24, Kj24, pj42, qj43, prej24⟩ : ∃ (x32 : Value) (Tj24 : State) (lj24 : List Loc) (hj24 : Heap), Stand p l e room_1 s m #[(.int p1), (.int p2), (.int p3), (.int p4), (.int p5), (.int p6)] below meth c Tj24 lj24 6 15 ∧ Fr n0 lj24 ∧ Tj24.heap = hj24 ∧ Keep T14.heap hj24 [] ∧ x32.isRef = true ∧ own_OR Z hj24 x32  ∧ own_Go p e below S0 (Tj24.setTop (mkF m 32 #[.val (.int p1), .val (.int p2), .val (.int p3), .val (.int p4), .val (.int p5), .val (.int p6), .val (.ref b4), .val (.ref b15), .unset, .unset, .unset, .unset, .unset, .unset, .unset, .unset, .unset, .unset, .unset, .unset, .unset, .unset, .unset, .unset, .unset, .unset, .unset, .unset, .unset, .unset] [x32])) := by
      have kjj24 : Keep T14.heap T14.heap [] := Keep.refl _ _
      have pre26 : own_Go p e below S0 (T14.setTop (mkF m 19 #[.val (.int p1), .val (.int p2), .val (.int p3), .val (.int p4), .val (.int p5), .val (.int p6), .val (.ref b4), .val (.ref b15), .unset, .unset, .unset, .unset, .unset, .unset, .unset, .unset, .unset, .unset, .unset, .unset, .unset, .unset, .unset, .unset, .unset, .unset, .unset, .unset, .unset, .unset] [(.int (p5 &&& (1 : Int32)))])) := by
        intro t kt
        refine pre23 t ?_
        refine XS.iload X14.here hx rfl (hb hby at_15) rfl ?_
        show Steps p.tables e below (T14.setTop (mkF m 17 #[.val (.int p1), .val (.int p2), .val (.int p3), .val (.int p4), .val (.int p5), .val (.int p6), .val (.ref b4), .val (.ref b15), .unset, .unset, .unset, .unset, .unset, .unset, .unset, .unset, .unset, .unset, .unset, .unset, .unset, .unset, .unset, .unset, .unset, .unset, .unset, .unset, .unset, .unset] [(.int p5)])) _
        refine XS.iconst X14.here hx rfl (hb hby at_17) ?_
        show Steps p.tables e below (T14.setTop (mkF m 18 #[.val (.int p1), .val (.int p2), .val (.int p3), .val (.int p4), .val (.int p5), .val (.int p6), .val (.ref b4), .val (.ref b15), .unset, .unset, .unset, .unset, .unset, .unset, .unset, .unset, .unset, .unset, .unset, .unset, .unset, .unset, .unset, .unset, .unset, .unset, .unset, .unset, .unset, .unset] [(.int (1 : Int32)), (.int p5)])) _
        refine XS.iand X14.here hx rfl (hb hby at_18) rfl ?_
        show Steps p.tables e below (T14.setTop (mkF m 19 #[.val (.int p1), .val (.int p2), .val (.int p3), .val (.int p4), .val (.int p5), .val (.int p6), .val (.ref b4), .val (.ref b15), .unset, .unset, .unset, .unset, .unset, .unset, .unset, .unset, .unset, .unset, .unset, .unset, .unset, .unset, .unset, .unset, .unset, .unset, .unset, .unset, .unset, .unset] [(.int (p5 &&& (1 : Int32)))])) _
        exact kt
      by_cases hc25 : (p5 &&& (1 : Int32)) = (0 : Int32)
      · have pre27 : own_Go p e below S0 (T14.setTop (mkF m 29 #[.val (.int p1), .val (.int p2), .val (.int p3), .val (.int p4), .val (.int p5), .val (.int p6), .val (.ref b4), .val (.ref b15), .unset, .unset, .unset, .unset, .unset, .unset, .unset, .unset, .unset, .unset, .unset, .unset, .unset, .unset, .unset, .unset, .unset, .unset, .unset, .unset, .unset, .unset] [(.int (16 : Int32)), (.int p1)])) := by
          intro t kt
          refine pre26 t ?_
          refine XS.ifYes X14.here hx rfl (pc0 := 19) (pc' := 26) rfl (hb hby at_19) rfl ((if0 _ _).trans (teq hc25).1) (by decide) (by decide) ?_
          show Steps p.tables e below (T14.setTop (mkF m 26 #[.val (.int p1), .val (.int p2), .val (.int p3), .val (.int p4), .val (.int p5), .val (.int p6), .val (.ref b4), .val (.ref b15), .unset, .unset, .unset, .unset, .unset, .unset, .unset, .unset, .unset, .unset, .unset, .unset, .unset, .unset, .unset, .unset, .unset, .unset, .unset, .unset, .unset, .unset] [])) _
          refine XS.iloadN X14.here hx rfl (hb hby at_26) rfl ?_
          show Steps p.tables e below (T14.setTop (mkF m 27 #[.val (.int p1), .val (.int p2), .val (.int p3), .val (.int p4), .val (.int p5), .val (.int p6), .val (.ref b4), .val (.ref b15), .unset, .unset, .unset, .unset, .unset, .unset, .unset, .unset, .unset, .unset, .unset, .unset, .unset, .unset, .unset, .unset, .unset, .unset, .unset, .unset, .unset, .unset] [(.int p1)])) _
          refine XS.bipush X14.here hx rfl (hb hby at_27) ?_
          show Steps p.tables e below (T14.setTop (mkF m 29 #[.val (.int p1), .val (.int p2), .val (.int p3), .val (.int p4), .val (.int p5), .val (.int p6), .val (.ref b4), .val (.ref b15), .unset, .unset, .unset, .unset, .unset, .unset, .unset, .unset, .unset, .unset, .unset, .unset, .unset, .unset, .unset, .unset, .unset, .unset, .unset, .unset, .unset, .unset] [(.int (16 : Int32)), (.int p1)])) _
          exact kt
        have f28 : Old Z n0 T14.heap := (f13.keep K14 all0)
        obtain ⟨_, _, ⟨T29, L29, k29, n29⟩, -, X29, ⟨Lc29, hQ29, l29, y29, z29⟩, st29⟩ := Jvm.LawKit.callS X14 hx (y := (⟨"com/example/refertario/refertario/store/EpisodeAdmittedAsPinLaw", "ch", "(II)Ljava/lang/String;"⟩ : MethodName)) hown (mvT hZ (hw _ (own_w 0 rfl))) (mvT hZ (hw _ (own_w 1 rfl))) (mvT hZ (hw _ (own_w 2 rfl))) (mvT hZ (hw _ (own_w 3 rfl))) (by decide) (backOf (W := 0) (rm1 l Z a0 hw [] p1 (16 : Int32) wC T14.heap n0 zs20 f28 qC) hZ (hw _ (own_w 3 rfl)) (hw _ (own_w 2 rfl)) (by decide) (by decide)) (g := (mkF m 29 #[.val (.int p1), .val (.int p2), .val (.int p3), .val (.int p4), .val (.int p5), .val (.int p6), .val (.ref b4), .val (.ref b15), .unset, .unset, .unset, .unset, .unset, .unset, .unset, .unset, .unset, .unset, .unset, .unset, .unset, .unset, .unset, .unset, .unset, .unset, .unset, .unset, .unset, .unset] [(.int (16 : Int32)), (.int p1)])) rfl (by rw [hml]; rfl) (argsL := [(.int p1), (.int (16 : Int32))]) (rest := []) (lenOf pd_9 rfl) rfl (by show 2 * 0 + _ ≤ _; exact Nat.le_of_eq rfl) (hb hby at_29) (fun _ _ => ⟨rfl, rfl, (by decide : 4 + 2 ≤ _), (by decide : 10 + 5 ≤ _)⟩)
        dsimp only [Pt.U, Pt.locs, Pt.cells, Pt.slots] at X29 l29 y29 z29 st29 hQ29
        subst l29 y29 z29
        obtain ⟨b30, rfl, Nq29, K29, g31, g32⟩ := hQ29
        have N29 := Fr.app N14 Nq29
        have ge33 : n0 ≤ b30 := Nat.le_trans zs20 g31
        have sz34 : h0.size ≤ b30 := Nat.le_trans kc21.1 g31
        have sz35 : T14.heap.size ≤ b30 := Nat.le_trans kjj24.1 g31
        have zs36 : n0 ≤ T29.heap.size := Nat.le_trans zs20 K29.1
        have kc37 : Keep h0 T29.heap [] := kc21.trans K29 all0
        have kc38 : Keep T14.heap T29.heap [] := kjj24.trans K29 all0
        have oc39 : own_OR Z T29.heap (.ref b30) := own_OR.of g32
        have pre40 : own_Go p e below S0 (T29.setTop (mkF m 32 #[.val (.int p1), .val (.int p2), .val (.int p3), .val (.int p4), .val (.int p5), .val (.int p6), .val (.ref b4), .val (.ref b15), .unset, .unset, .unset, .unset, .unset, .unset, .unset, .unset, .unset, .unset, .unset, .unset, .unset, .unset, .unset, .unset, .unset, .unset, .unset, .unset, .unset, .unset] [(.ref b30)])) := by
          intro t kt
          refine pre27 t ?_
          refine st29 _ ?_
          show Steps p.tables e below (T29.setTop (mkF m 32 #[.val (.int p1), .val (.int p2), .val (.int p3), .val (.int p4), .val (.int p5), .val (.int p6), .val (.ref b4), .val (.ref b15), .unset, .unset, .unset, .unset, .unset, .unset, .unset, .unset, .unset, .unset, .unset, .unset, .unset, .unset, .unset, .unset, .unset, .unset, .unset, .unset, .unset, .unset] [(.ref b30)])) _
          exact kt
        exact ⟨(.ref b30), T29, _, _, (Stand.mono X29 (by decide) (by decide)), N29, rfl, kc38, rfl, oc39, pre40⟩
      · have pre41 : own_Go p e below S0 (T14.setTop (mkF m 32 #[.val (.int p1), .val (.int p2), .val (.int p3), .val (.int p4), .val (.int p5), .val (.int p6), .val (.ref b4), .val (.ref b15), .unset, .unset, .unset, .unset, .unset, .unset, .unset, .unset, .unset, .unset, .unset, .unset, .unset, .unset, .unset, .unset, .unset, .unset, .unset, .unset, .unset, .unset] [.null])) := by
          intro t kt
          refine pre26 t ?_
          refine XS.ifNo X14.here hx rfl (hb hby at_19) rfl ((if0 _ _).trans (feq hc25).1) ?_
          show Steps p.tables e below (T14.setTop (mkF m 22 #[.val (.int p1), .val (.int p2), .val (.int p3), .val (.int p4), .val (.int p5), .val (.int p6), .val (.ref b4), .val (.ref b15), .unset, .unset, .unset, .unset, .unset, .unset, .unset, .unset, .unset, .unset, .unset, .unset, .unset, .unset, .unset, .unset, .unset, .unset, .unset, .unset, .unset, .unset] [])) _
          refine XS.aconstNull X14.here hx rfl (hb hby at_22) ?_
          show Steps p.tables e below (T14.setTop (mkF m 23 #[.val (.int p1), .val (.int p2), .val (.int p3), .val (.int p4), .val (.int p5), .val (.int p6), .val (.ref b4), .val (.ref b15), .unset, .unset, .unset, .unset, .unset, .unset, .unset, .unset, .unset, .unset, .unset, .unset, .unset, .unset, .unset, .unset, .unset, .unset, .unset, .unset, .unset, .unset] [.null])) _
          refine XS.goto X14.here hx rfl (pc0 := 23) (pc' := 32) rfl (hb hby at_23) (by decide) (by decide) ?_
          show Steps p.tables e below (T14.setTop (mkF m 32 #[.val (.int p1), .val (.int p2), .val (.int p3), .val (.int p4), .val (.int p5), .val (.int p6), .val (.ref b4), .val (.ref b15), .unset, .unset, .unset, .unset, .unset, .unset, .unset, .unset, .unset, .unset, .unset, .unset, .unset, .unset, .unset, .unset, .unset, .unset, .unset, .unset, .unset, .unset] [.null])) _
          exact kt
        exact ⟨.null, T14, _, _, (Stand.mono X14 (by decide) (by decide)), N14, rfl, kjj24, rfl, own_OR.null, pre41⟩
    have zs44 : n0 ≤ hj24.size := Nat.le_trans zs20 Kj24.1
    have kc45 : Keep h0 hj24 [] := kc21.trans Kj24 all0
    have pre46 : own_Go p e below S0 (Tj24.setTop (mkF m 37 #[.val (.int p1), .val (.int p2), .val (.int p3), .val (.int p4), .val (.int p5), .val (.int p6), .val (.ref b4), .val (.ref b15), .val x32, .unset, .unset, .unset, .unset, .unset, .unset, .unset, .unset, .unset, .unset, .unset, .unset, .unset, .unset, .unset, .unset, .unset, .unset, .unset, .unset, .unset] [(.int (24 : Int32)), (.int p1)])) := by
      intro t kt
      refine prej24 t ?_
      refine XS.astore Xj24.here hx rfl (hb hby at_32) rfl pj42 (l' := #[.val (.int p1), .val (.int p2), .val (.int p3), .val (.int p4), .val (.int p5), .val (.int p6), .val (.ref b4), .val (.ref b15), .val x32, .unset, .unset, .unset, .unset, .unset, .unset, .unset, .unset, .unset, .unset, .unset, .unset, .unset, .unset, .unset, .unset, .unset, .unset, .unset, .unset, .unset]) (storeLocals_cat1 (x := .unset) rfl (own_cat pj42) trivial) ?_
      show Steps p.tables e below (Tj24.setTop (mkF m 34 #[.val (.int p1), .val (.int p2), .val (.int p3), .val (.int p4), .val (.int p5), .val (.int p6), .val (.ref b4), .val (.ref b15), .val x32, .unset, .unset, .unset, .unset, .unset, .unset, .unset, .unset, .unset, .unset, .unset, .unset, .unset, .unset, .unset, .unset, .unset, .unset, .unset, .unset, .unset] [])) _
      refine XS.iloadN Xj24.here hx rfl (hb hby at_34) rfl ?_
      show Steps p.tables e below (Tj24.setTop (mkF m 35 #[.val (.int p1), .val (.int p2), .val (.int p3), .val (.int p4), .val (.int p5), .val (.int p6), .val (.ref b4), .val (.ref b15), .val x32, .unset, .unset, .unset, .unset, .unset, .unset, .unset, .unset, .unset, .unset, .unset, .unset, .unset, .unset, .unset, .unset, .unset, .unset, .unset, .unset, .unset] [(.int p1)])) _
      refine XS.bipush Xj24.here hx rfl (hb hby at_35) ?_
      show Steps p.tables e below (Tj24.setTop (mkF m 37 #[.val (.int p1), .val (.int p2), .val (.int p3), .val (.int p4), .val (.int p5), .val (.int p6), .val (.ref b4), .val (.ref b15), .val x32, .unset, .unset, .unset, .unset, .unset, .unset, .unset, .unset, .unset, .unset, .unset, .unset, .unset, .unset, .unset, .unset, .unset, .unset, .unset, .unset, .unset] [(.int (24 : Int32)), (.int p1)])) _
      exact kt
    have f47 : Old Z n0 hj24 := ((f13.keep K14 all0).keep Kj24 all0)
    obtain ⟨_, _, ⟨T48, L48, k48, n48⟩, -, X48, ⟨Lc48, hQ48, l48, y48, z48⟩, st48⟩ := Jvm.LawKit.callS Xj24 hx (y := (⟨"com/example/refertario/refertario/store/EpisodeAdmittedAsPinLaw", "ch", "(II)Ljava/lang/String;"⟩ : MethodName)) hown (mvT hZ (hw _ (own_w 0 rfl))) (mvT hZ (hw _ (own_w 1 rfl))) (mvT hZ (hw _ (own_w 2 rfl))) (mvT hZ (hw _ (own_w 3 rfl))) (by decide) (backOf (W := 0) (rm1 l Z a0 hw [] p1 (24 : Int32) wC hj24 n0 zs44 f47 qC) hZ (hw _ (own_w 3 rfl)) (hw _ (own_w 2 rfl)) (by decide) (by decide)) (g := (mkF m 37 #[.val (.int p1), .val (.int p2), .val (.int p3), .val (.int p4), .val (.int p5), .val (.int p6), .val (.ref b4), .val (.ref b15), .val x32, .unset, .unset, .unset, .unset, .unset, .unset, .unset, .unset, .unset, .unset, .unset, .unset, .unset, .unset, .unset, .unset, .unset, .unset, .unset, .unset, .unset] [(.int (24 : Int32)), (.int p1)])) rfl (by rw [hml]; rfl) (argsL := [(.int p1), (.int (24 : Int32))]) (rest := []) (lenOf pd_9 rfl) rfl (by show 2 * 0 + _ ≤ _; exact Nat.le_of_eq rfl) (hb hby at_37) (fun _ _ => ⟨rfl, ej24, (by decide : 6 + 2 ≤ _), (by decide : 15 + 5 ≤ _)⟩)
    dsimp only [Pt.U, Pt.locs, Pt.cells, Pt.slots] at X48 l48 y48 z48 st48 hQ48
    subst l48 y48 z48
    obtain ⟨b49, rfl, Nq48, K48, g50, g51⟩ := hQ48
    have N48 := Fr.app Nj24 Nq48
    have ge52 : n0 ≤ b49 := Nat.le_trans zs44 g50
    have sz53 : h0.size ≤ b49 := Nat.le_trans kc45.1 g50
    have zs54 : n0 ≤ T48.heap.size := Nat.le_trans zs44 K48.1
    have kc55 : Keep h0 T48.heap [] := kc45.trans K48 all0
    have oc56 : own_OR Z T48.heap (.ref b49) := own_OR.of g51
    have pre57 : own_Go p e below S0 (T48.setTop (mkF m 42 #[.val (.int p1), .val (.int p2), .val (.int p3), .val (.int p4), .val (.int p5), .val (.int p6), .val (.ref b4), .val (.ref b15), .val x32, .val (.ref b49), .unset, .unset, .unset, .unset, .unset, .unset, .unset, .unset, .unset, .unset, .unset, .unset, .unset, .unset, .unset, .unset, .unset, .unset, .unset, .unset] [])) := by
      intro t kt
      refine pre46 t ?_
      refine st48 _ ?_
      show Steps p.tables e below (T48.setTop (mkF m 40 #[.val (.int p1), .val (.int p2), .val (.int p3), .val (.int p4), .val (.int p5), .val (.int p6), .val (.ref b4), .val (.ref b15), .val x32, .unset, .unset, .unset, .unset, .unset, .unset, .unset, .unset, .unset, .unset, .unset, .unset, .unset, .unset, .unset, .unset, .unset, .unset, .unset, .unset, .unset] [(.ref b49)])) _
      refine XS.astore X48.here hx rfl (hb hby at_40) rfl rfl (l' := #[.val (.int p1), .val (.int p2), .val (.int p3), .val (.int p4), .val (.int p5), .val (.int p6), .val (.ref b4), .val (.ref b15), .val x32, .val (.ref b49), .unset, .unset, .unset, .unset, .unset, .unset, .unset, .unset, .unset, .unset, .unset, .unset, .unset, .unset, .unset, .unset, .unset, .unset, .unset, .unset]) rfl ?_
      show Steps p.tables e below (T48.setTop (mkF m 42 #[.val (.int p1), .val (.int p2), .val (.int p3), .val (.int p4), .val (.int p5), .val (.int p6), .val (.ref b4), .val (.ref b15), .val x32, .val (.ref b49), .unset, .unset, .unset, .unset, .unset, .unset, .unset, .unset, .unset, .unset, .unset, .unset, .unset, .unset, .unset, .unset, .unset, .unset, .unset, .unset] [])) _
      exact kt
    have f58 : own_OR Z T48.heap (.ref b4)  := (own_OR.keep (own_OR.keep (own_OR.keep oc11 K14 ) Kj24 ) K48 )
    have f59 : own_OR Z T48.heap (.ref b15)  := (own_OR.keep (own_OR.keep oc22 Kj24 ) K48 )
    have f60 : own_OR Z T48.heap x32  := (own_OR.keep qj43 K48 )
    exact ⟨(.ref b4), (.ref b15), x32, (.ref b49), T48, _, _, (Stand.mono X48 (by decide) (by decide)), N48, rfl, kc55, rfl, rfl, pj42, rfl, f58, f59, f60, oc56, pre57⟩
  have zs69 : n0 ≤ hj1.size := Nat.le_trans Z0 Kj1.1
  have pre70 : own_Go p e below S0 (Tj1.setTop (mkF m 44 #[.val (.int p1), .val (.int p2), .val (.int p3), .val (.int p4), .val (.int p5), .val (.int p6), .val x6, .val x7, .val x8, .val x9, .unset, .unset, .unset, .unset, .unset, .unset, .unset, .unset, .unset, .unset, .unset, .unset, .unset, .unset, .unset, .unset, .unset, .unset, .unset, .unset] [(.int (0 : Int32)), (.int p2)])) := by
    intro t kt
    refine prej1 t ?_
    refine XS.iloadN Xj1.here hx rfl (hb hby at_42) rfl ?_
    show Steps p.tables e below (Tj1.setTop (mkF m 43 #[.val (.int p1), .val (.int p2), .val (.int p3), .val (.int p4), .val (.int p5), .val (.int p6), .val x6, .val x7, .val x8, .val x9, .unset, .unset, .unset, .unset, .unset, .unset, .unset, .unset, .unset, .unset, .unset, .unset, .unset, .unset, .unset, .unset, .unset, .unset, .unset, .unset] [(.int p2)])) _
    refine XS.iconst Xj1.here hx rfl (hb hby at_43) ?_
    show Steps p.tables e below (Tj1.setTop (mkF m 44 #[.val (.int p1), .val (.int p2), .val (.int p3), .val (.int p4), .val (.int p5), .val (.int p6), .val x6, .val x7, .val x8, .val x9, .unset, .unset, .unset, .unset, .unset, .unset, .unset, .unset, .unset, .unset, .unset, .unset, .unset, .unset, .unset, .unset, .unset, .unset, .unset, .unset] [(.int (0 : Int32)), (.int p2)])) _
    exact kt
  have f71 : Old Z n0 hj1 := (O0.keep Kj1 all0)
  obtain ⟨_, _, ⟨T72, L72, k72, n72⟩, -, X72, ⟨Lc72, hQ72, l72, y72, z72⟩, st72⟩ := Jvm.LawKit.callS Xj1 hx (y := (⟨"com/example/refertario/refertario/store/EpisodeAdmittedAsPinLaw", "ch", "(II)Ljava/lang/String;"⟩ : MethodName)) hown (mvT hZ (hw _ (own_w 0 rfl))) (mvT hZ (hw _ (own_w 1 rfl))) (mvT hZ (hw _ (own_w 2 rfl))) (mvT hZ (hw _ (own_w 3 rfl))) (by decide) (backOf (W := 0) (rm1 l Z a0 hw [] p2 (0 : Int32) wC hj1 n0 zs69 f71 qC) hZ (hw _ (own_w 3 rfl)) (hw _ (own_w 2 rfl)) (by decide) (by decide)) (g := (mkF m 44 #[.val (.int p1), .val (.int p2), .val (.int p3), .val (.int p4), .val (.int p5), .val (.int p6), .val x6, .val x7, .val x8, .val x9, .unset, .unset, .unset, .unset, .unset, .unset, .unset, .unset, .unset, .unset, .unset, .unset, .unset, .unset, .unset, .unset, .unset, .unset, .unset, .unset] [(.int (0 : Int32)), (.int p2)])) rfl (by rw [hml]; rfl) (argsL := [(.int p2), (.int (0 : Int32))]) (rest := []) (lenOf pd_9 rfl) rfl (by show 2 * 0 + _ ≤ _; exact Nat.le_of_eq rfl) (hb hby at_44) (fun _ _ => ⟨rfl, ej1, (by decide : 8 + 2 ≤ _), (by decide : 20 + 5 ≤ _)⟩)
  dsimp only [Pt.U, Pt.locs, Pt.cells, Pt.slots] at X72 l72 y72 z72 st72 hQ72
  subst l72 y72 z72
  obtain ⟨b73, rfl, Nq72, K72, g74, g75⟩ := hQ72
  have N72 := Fr.app Nj1 Nq72
  have ge76 : n0 ≤ b73 := Nat.le_trans zs69 g74
  have zs77 : n0 ≤ T72.heap.size := Nat.le_trans zs69 K72.1
  have oc78 : own_OR Z T72.heap (.ref b73) := own_OR.of g75
  have pre79 : own_Go p e below S0 (T72.setTop (mkF m 49 #[.val (.int p1), .val (.int p2), .val (.int p3), .val (.int p4), .val (.int p5), .val (.int p6), .val x6, .val x7, .val x8, .val x9, .val (.ref b73), .unset, .unset, .unset, .unset, .unset, .unset, .unset, .unset, .unset, .unset, .unset, .unset, .unset, .unset, .unset, .unset, .unset, .unset, .unset] [])) := by
    intro t kt
    refine pre70 t ?_
    refine st72 _ ?_
    show Steps p.tables e below (T72.setTop (mkF m 47 #[.val (.int p1), .val (.int p2), .val (.int p3), .val (.int p4), .val (.int p5), .val (.int p6), .val x6, .val x7, .val x8, .val x9, .unset, .unset, .unset, .unset, .unset, .unset, .unset, .unset, .unset, .unset, .unset, .unset, .unset, .unset, .unset, .unset, .unset, .unset, .unset, .unset] [(.ref b73)])) _
    refine XS.astore X72.here hx rfl (hb hby at_47) rfl rfl (l' := #[.val (.int p1), .val (.int p2), .val (.int p3), .val (.int p4), .val (.int p5), .val (.int p6), .val x6, .val x7, .val x8, .val x9, .val (.ref b73), .unset, .unset, .unset, .unset, .unset, .unset, .unset, .unset, .unset, .unset, .unset, .unset, .unset, .unset, .unset, .unset, .unset, .unset, .unset]) rfl ?_
    show Steps p.tables e below (T72.setTop (mkF m 49 #[.val (.int p1), .val (.int p2), .val (.int p3), .val (.int p4), .val (.int p5), .val (.int p6), .val x6, .val x7, .val x8, .val x9, .val (.ref b73), .unset, .unset, .unset, .unset, .unset, .unset, .unset, .unset, .unset, .unset, .unset, .unset, .unset, .unset, .unset, .unset, .unset, .unset, .unset] [])) _
    exact kt
  obtain ⟨x66, Tj80, lj80, hj80, Xj80, Nj80, ej80, Kj80, pj96, qj97, prej80⟩ : ∃ (x66 : Value) (Tj80 : State) (lj80 : List Loc) (hj80 : Heap), Stand p l e room_1 s m #[(.int p1), (.int p2), (.int p3), (.int p4), (.int p5), (.int p6)] below meth c Tj80 lj80 12 30 ∧ Fr n0 lj80 ∧ Tj80.heap = hj80 ∧ Keep T72.heap hj80 [] ∧ x66.isRef = true ∧ own_OR Z hj80 x66  ∧ own_Go p e below S0 (Tj80.setTop (mkF m 66 #[.val (.int p1), .val (.int p2), .val (.int p3), .val (.int p4), .val (.int p5), .val (.int p6), .val x6, .val x7, .val x8, .val x9, .val (.ref b73), .unset, .unset, .unset, .unset, .unset, .unset, .unset, .unset, .unset, .unset, .unset, .unset, .unset, .unset, .unset, .unset, .unset, .unset, .unset] [x66])) := by
    have kjj80 : Keep T72.heap T72.heap [] := Keep.refl _ _
    have pre82 : own_Go p e below S0 (T72.setTop (mkF m 53 #[.val (.int p1), .val (.int p2), .val (.int p3), .val (.int p4), .val (.int p5), .val (.int p6), .val x6, .val x7, .val x8, .val x9, .val (.ref b73), .unset, .unset, .unset, .unset, .unset, .unset, .unset, .unset, .unset, .unset, .unset, .unset, .unset, .unset, .unset, .unset, .unset, .unset, .unset] [(.int (p5 &&& (2 : Int32)))])) := by
      intro t kt
      refine pre79 t ?_
      refine XS.iload X72.here hx rfl (hb hby at_49) rfl ?_
      show Steps p.tables e below (T72.setTop (mkF m 51 #[.val (.int p1), .val (.int p2), .val (.int p3), .val (.int p4), .val (.int p5), .val (.int p6), .val x6, .val x7, .val x8, .val x9, .val (.ref b73), .unset, .unset, .unset, .unset, .unset, .unset, .unset, .unset, .unset, .unset, .unset, .unset, .unset, .unset, .unset, .unset, .unset, .unset, .unset] [(.int p5)])) _
      refine XS.iconst X72.here hx rfl (hb hby at_51) ?_
      show Steps p.tables e below (T72.setTop (mkF m 52 #[.val (.int p1), .val (.int p2), .val (.int p3), .val (.int p4), .val (.int p5), .val (.int p6), .val x6, .val x7, .val x8, .val x9, .val (.ref b73), .unset, .unset, .unset, .unset, .unset, .unset, .unset, .unset, .unset, .unset, .unset, .unset, .unset, .unset, .unset, .unset, .unset, .unset, .unset] [(.int (2 : Int32)), (.int p5)])) _
      refine XS.iand X72.here hx rfl (hb hby at_52) rfl ?_
      show Steps p.tables e below (T72.setTop (mkF m 53 #[.val (.int p1), .val (.int p2), .val (.int p3), .val (.int p4), .val (.int p5), .val (.int p6), .val x6, .val x7, .val x8, .val x9, .val (.ref b73), .unset, .unset, .unset, .unset, .unset, .unset, .unset, .unset, .unset, .unset, .unset, .unset, .unset, .unset, .unset, .unset, .unset, .unset, .unset] [(.int (p5 &&& (2 : Int32)))])) _
      exact kt
    by_cases hc81 : (p5 &&& (2 : Int32)) = (0 : Int32)
    · have pre83 : own_Go p e below S0 (T72.setTop (mkF m 63 #[.val (.int p1), .val (.int p2), .val (.int p3), .val (.int p4), .val (.int p5), .val (.int p6), .val x6, .val x7, .val x8, .val x9, .val (.ref b73), .unset, .unset, .unset, .unset, .unset, .unset, .unset, .unset, .unset, .unset, .unset, .unset, .unset, .unset, .unset, .unset, .unset, .unset, .unset] [(.int (8 : Int32)), (.int p2)])) := by
        intro t kt
        refine pre82 t ?_
        refine XS.ifYes X72.here hx rfl (pc0 := 53) (pc' := 60) rfl (hb hby at_53) rfl ((if0 _ _).trans (teq hc81).1) (by decide) (by decide) ?_
        show Steps p.tables e below (T72.setTop (mkF m 60 #[.val (.int p1), .val (.int p2), .val (.int p3), .val (.int p4), .val (.int p5), .val (.int p6), .val x6, .val x7, .val x8, .val x9, .val (.ref b73), .unset, .unset, .unset, .unset, .unset, .unset, .unset, .unset, .unset, .unset, .unset, .unset, .unset, .unset, .unset, .unset, .unset, .unset, .unset] [])) _
        refine XS.iloadN X72.here hx rfl (hb hby at_60) rfl ?_
        show Steps p.tables e below (T72.setTop (mkF m 61 #[.val (.int p1), .val (.int p2), .val (.int p3), .val (.int p4), .val (.int p5), .val (.int p6), .val x6, .val x7, .val x8, .val x9, .val (.ref b73), .unset, .unset, .unset, .unset, .unset, .unset, .unset, .unset, .unset, .unset, .unset, .unset, .unset, .unset, .unset, .unset, .unset, .unset, .unset] [(.int p2)])) _
        refine XS.bipush X72.here hx rfl (hb hby at_61) ?_
        show Steps p.tables e below (T72.setTop (mkF m 63 #[.val (.int p1), .val (.int p2), .val (.int p3), .val (.int p4), .val (.int p5), .val (.int p6), .val x6, .val x7, .val x8, .val x9, .val (.ref b73), .unset, .unset, .unset, .unset, .unset, .unset, .unset, .unset, .unset, .unset, .unset, .unset, .unset, .unset, .unset, .unset, .unset, .unset, .unset] [(.int (8 : Int32)), (.int p2)])) _
        exact kt
      have f84 : Old Z n0 T72.heap := (f71.keep K72 all0)
      obtain ⟨_, _, ⟨T85, L85, k85, n85⟩, -, X85, ⟨Lc85, hQ85, l85, y85, z85⟩, st85⟩ := Jvm.LawKit.callS X72 hx (y := (⟨"com/example/refertario/refertario/store/EpisodeAdmittedAsPinLaw", "ch", "(II)Ljava/lang/String;"⟩ : MethodName)) hown (mvT hZ (hw _ (own_w 0 rfl))) (mvT hZ (hw _ (own_w 1 rfl))) (mvT hZ (hw _ (own_w 2 rfl))) (mvT hZ (hw _ (own_w 3 rfl))) (by decide) (backOf (W := 0) (rm1 l Z a0 hw [] p2 (8 : Int32) wC T72.heap n0 zs77 f84 qC) hZ (hw _ (own_w 3 rfl)) (hw _ (own_w 2 rfl)) (by decide) (by decide)) (g := (mkF m 63 #[.val (.int p1), .val (.int p2), .val (.int p3), .val (.int p4), .val (.int p5), .val (.int p6), .val x6, .val x7, .val x8, .val x9, .val (.ref b73), .unset, .unset, .unset, .unset, .unset, .unset, .unset, .unset, .unset, .unset, .unset, .unset, .unset, .unset, .unset, .unset, .unset, .unset, .unset] [(.int (8 : Int32)), (.int p2)])) rfl (by rw [hml]; rfl) (argsL := [(.int p2), (.int (8 : Int32))]) (rest := []) (lenOf pd_9 rfl) rfl (by show 2 * 0 + _ ≤ _; exact Nat.le_of_eq rfl) (hb hby at_63) (fun _ _ => ⟨rfl, rfl, (by decide : 10 + 2 ≤ _), (by decide : 25 + 5 ≤ _)⟩)
      dsimp only [Pt.U, Pt.locs, Pt.cells, Pt.slots] at X85 l85 y85 z85 st85 hQ85
      subst l85 y85 z85
      obtain ⟨b86, rfl, Nq85, K85, g87, g88⟩ := hQ85
      have N85 := Fr.app N72 Nq85
      have ge89 : n0 ≤ b86 := Nat.le_trans zs77 g87
      have sz90 : T72.heap.size ≤ b86 := Nat.le_trans kjj80.1 g87
      have zs91 : n0 ≤ T85.heap.size := Nat.le_trans zs77 K85.1
      have kc92 : Keep T72.heap T85.heap [] := kjj80.trans K85 all0
      have oc93 : own_OR Z T85.heap (.ref b86) := own_OR.of g88
      have pre94 : own_Go p e below S0 (T85.setTop (mkF m 66 #[.val (.int p1), .val (.int p2), .val (.int p3), .val (.int p4), .val (.int p5), .val (.int p6), .val x6, .val x7, .val x8, .val x9, .val (.ref b73), .unset, .unset, .unset, .unset, .unset, .unset, .unset, .unset, .unset, .unset, .unset, .unset, .unset, .unset, .unset, .unset, .unset, .unset, .unset] [(.ref b86)])) := by
        intro t kt
        refine pre83 t ?_
        refine st85 _ ?_
        show Steps p.tables e below (T85.setTop (mkF m 66 #[.val (.int p1), .val (.int p2), .val (.int p3), .val (.int p4), .val (.int p5), .val (.int p6), .val x6, .val x7, .val x8, .val x9, .val (.ref b73), .unset, .unset, .unset, .unset, .unset, .unset, .unset, .unset, .unset, .unset, .unset, .unset, .unset, .unset, .unset, .unset, .unset, .unset, .unset] [(.ref b86)])) _
        exact kt
      exact ⟨(.ref b86), T85, _, _, (Stand.mono X85 (by decide) (by decide)), N85, rfl, kc92, rfl, oc93, pre94⟩
    · have pre95 : own_Go p e below S0 (T72.setTop (mkF m 66 #[.val (.int p1), .val (.int p2), .val (.int p3), .val (.int p4), .val (.int p5), .val (.int p6), .val x6, .val x7, .val x8, .val x9, .val (.ref b73), .unset, .unset, .unset, .unset, .unset, .unset, .unset, .unset, .unset, .unset, .unset, .unset, .unset, .unset, .unset, .unset, .unset, .unset, .unset] [.null])) := by
        intro t kt
        refine pre82 t ?_
        refine XS.ifNo X72.here hx rfl (hb hby at_53) rfl ((if0 _ _).trans (feq hc81).1) ?_
        show Steps p.tables e below (T72.setTop (mkF m 56 #[.val (.int p1), .val (.int p2), .val (.int p3), .val (.int p4), .val (.int p5), .val (.int p6), .val x6, .val x7, .val x8, .val x9, .val (.ref b73), .unset, .unset, .unset, .unset, .unset, .unset, .unset, .unset, .unset, .unset, .unset, .unset, .unset, .unset, .unset, .unset, .unset, .unset, .unset] [])) _
        refine XS.aconstNull X72.here hx rfl (hb hby at_56) ?_
        show Steps p.tables e below (T72.setTop (mkF m 57 #[.val (.int p1), .val (.int p2), .val (.int p3), .val (.int p4), .val (.int p5), .val (.int p6), .val x6, .val x7, .val x8, .val x9, .val (.ref b73), .unset, .unset, .unset, .unset, .unset, .unset, .unset, .unset, .unset, .unset, .unset, .unset, .unset, .unset, .unset, .unset, .unset, .unset, .unset] [.null])) _
        refine XS.goto X72.here hx rfl (pc0 := 57) (pc' := 66) rfl (hb hby at_57) (by decide) (by decide) ?_
        show Steps p.tables e below (T72.setTop (mkF m 66 #[.val (.int p1), .val (.int p2), .val (.int p3), .val (.int p4), .val (.int p5), .val (.int p6), .val x6, .val x7, .val x8, .val x9, .val (.ref b73), .unset, .unset, .unset, .unset, .unset, .unset, .unset, .unset, .unset, .unset, .unset, .unset, .unset, .unset, .unset, .unset, .unset, .unset, .unset] [.null])) _
        exact kt
      exact ⟨.null, T72, _, _, (Stand.mono X72 (by decide) (by decide)), N72, rfl, kjj80, rfl, own_OR.null, pre95⟩
  have zs98 : n0 ≤ hj80.size := Nat.le_trans zs77 Kj80.1
  have pre99 : own_Go p e below S0 (Tj80.setTop (mkF m 68 #[.val (.int p1), .val (.int p2), .val (.int p3), .val (.int p4), .val (.int p5), .val (.int p6), .val x6, .val x7, .val x8, .val x9, .val (.ref b73), .val x66, .unset, .unset, .unset, .unset, .unset, .unset, .unset, .unset, .unset, .unset, .unset, .unset, .unset, .unset, .unset, .unset, .unset, .unset] [])) := by
    intro t kt
    refine prej80 t ?_
    refine XS.astore Xj80.here hx rfl (hb hby at_66) rfl pj96 (l' := #[.val (.int p1), .val (.int p2), .val (.int p3), .val (.int p4), .val (.int p5), .val (.int p6), .val x6, .val x7, .val x8, .val x9, .val (.ref b73), .val x66, .unset, .unset, .unset, .unset, .unset, .unset, .unset, .unset, .unset, .unset, .unset, .unset, .unset, .unset, .unset, .unset, .unset, .unset]) (storeLocals_cat1 (x := .unset) rfl (own_cat pj96) trivial) ?_
    show Steps p.tables e below (Tj80.setTop (mkF m 68 #[.val (.int p1), .val (.int p2), .val (.int p3), .val (.int p4), .val (.int p5), .val (.int p6), .val x6, .val x7, .val x8, .val x9, .val (.ref b73), .val x66, .unset, .unset, .unset, .unset, .unset, .unset, .unset, .unset, .unset, .unset, .unset, .unset, .unset, .unset, .unset, .unset, .unset, .unset] [])) _
    exact kt
  obtain ⟨x85, Tj100, lj100, hj100, Xj100, Nj100, ej100, Kj100, pj116, qj117, prej100⟩ : ∃ (x85 : Value) (Tj100 : State) (lj100 : List Loc) (hj100 : Heap), Stand p l e room_1 s m #[(.int p1), (.int p2), (.int p3), (.int p4), (.int p5), (.int p6)] below meth c Tj100 lj100 14 35 ∧ Fr n0 lj100 ∧ Tj100.heap = hj100 ∧ Keep hj80 hj100 [] ∧ x85.isRef = true ∧ own_OR Z hj100 x85  ∧ own_Go p e below S0 (Tj100.setTop (mkF m 85 #[.val (.int p1), .val (.int p2), .val (.int p3), .val (.int p4), .val (.int p5), .val (.int p6), .val x6, .val x7, .val x8, .val x9, .val (.ref b73), .val x66, .unset, .unset, .unset, .unset, .unset, .unset, .unset, .unset, .unset, .unset, .unset, .unset, .unset, .unset, .unset, .unset, .unset, .unset] [x85])) := by
    have kjj100 : Keep hj80 hj80 [] := Keep.refl _ _
    have pre102 : own_Go p e below S0 (Tj80.setTop (mkF m 72 #[.val (.int p1), .val (.int p2), .val (.int p3), .val (.int p4), .val (.int p5), .val (.int p6), .val x6, .val x7, .val x8, .val x9, .val (.ref b73), .val x66, .unset, .unset, .unset, .unset, .unset, .unset, .unset, .unset, .unset, .unset, .unset, .unset, .unset, .unset, .unset, .unset, .unset, .unset] [(.int (p5 &&& (4 : Int32)))])) := by
      intro t kt
      refine pre99 t ?_
      refine XS.iload Xj80.here hx rfl (hb hby at_68) rfl ?_
      show Steps p.tables e below (Tj80.setTop (mkF m 70 #[.val (.int p1), .val (.int p2), .val (.int p3), .val (.int p4), .val (.int p5), .val (.int p6), .val x6, .val x7, .val x8, .val x9, .val (.ref b73), .val x66, .unset, .unset, .unset, .unset, .unset, .unset, .unset, .unset, .unset, .unset, .unset, .unset, .unset, .unset, .unset, .unset, .unset, .unset] [(.int p5)])) _
      refine XS.iconst Xj80.here hx rfl (hb hby at_70) ?_
      show Steps p.tables e below (Tj80.setTop (mkF m 71 #[.val (.int p1), .val (.int p2), .val (.int p3), .val (.int p4), .val (.int p5), .val (.int p6), .val x6, .val x7, .val x8, .val x9, .val (.ref b73), .val x66, .unset, .unset, .unset, .unset, .unset, .unset, .unset, .unset, .unset, .unset, .unset, .unset, .unset, .unset, .unset, .unset, .unset, .unset] [(.int (4 : Int32)), (.int p5)])) _
      refine XS.iand Xj80.here hx rfl (hb hby at_71) rfl ?_
      show Steps p.tables e below (Tj80.setTop (mkF m 72 #[.val (.int p1), .val (.int p2), .val (.int p3), .val (.int p4), .val (.int p5), .val (.int p6), .val x6, .val x7, .val x8, .val x9, .val (.ref b73), .val x66, .unset, .unset, .unset, .unset, .unset, .unset, .unset, .unset, .unset, .unset, .unset, .unset, .unset, .unset, .unset, .unset, .unset, .unset] [(.int (p5 &&& (4 : Int32)))])) _
      exact kt
    by_cases hc101 : (p5 &&& (4 : Int32)) = (0 : Int32)
    · have pre103 : own_Go p e below S0 (Tj80.setTop (mkF m 82 #[.val (.int p1), .val (.int p2), .val (.int p3), .val (.int p4), .val (.int p5), .val (.int p6), .val x6, .val x7, .val x8, .val x9, .val (.ref b73), .val x66, .unset, .unset, .unset, .unset, .unset, .unset, .unset, .unset, .unset, .unset, .unset, .unset, .unset, .unset, .unset, .unset, .unset, .unset] [(.int (16 : Int32)), (.int p2)])) := by
        intro t kt
        refine pre102 t ?_
        refine XS.ifYes Xj80.here hx rfl (pc0 := 72) (pc' := 79) rfl (hb hby at_72) rfl ((if0 _ _).trans (teq hc101).1) (by decide) (by decide) ?_
        show Steps p.tables e below (Tj80.setTop (mkF m 79 #[.val (.int p1), .val (.int p2), .val (.int p3), .val (.int p4), .val (.int p5), .val (.int p6), .val x6, .val x7, .val x8, .val x9, .val (.ref b73), .val x66, .unset, .unset, .unset, .unset, .unset, .unset, .unset, .unset, .unset, .unset, .unset, .unset, .unset, .unset, .unset, .unset, .unset, .unset] [])) _
        refine XS.iloadN Xj80.here hx rfl (hb hby at_79) rfl ?_
        show Steps p.tables e below (Tj80.setTop (mkF m 80 #[.val (.int p1), .val (.int p2), .val (.int p3), .val (.int p4), .val (.int p5), .val (.int p6), .val x6, .val x7, .val x8, .val x9, .val (.ref b73), .val x66, .unset, .unset, .unset, .unset, .unset, .unset, .unset, .unset, .unset, .unset, .unset, .unset, .unset, .unset, .unset, .unset, .unset, .unset] [(.int p2)])) _
        refine XS.bipush Xj80.here hx rfl (hb hby at_80) ?_
        show Steps p.tables e below (Tj80.setTop (mkF m 82 #[.val (.int p1), .val (.int p2), .val (.int p3), .val (.int p4), .val (.int p5), .val (.int p6), .val x6, .val x7, .val x8, .val x9, .val (.ref b73), .val x66, .unset, .unset, .unset, .unset, .unset, .unset, .unset, .unset, .unset, .unset, .unset, .unset, .unset, .unset, .unset, .unset, .unset, .unset] [(.int (16 : Int32)), (.int p2)])) _
        exact kt
      have f104 : Old Z n0 hj80 := ((f71.keep K72 all0).keep Kj80 all0)
      obtain ⟨_, _, ⟨T105, L105, k105, n105⟩, -, X105, ⟨Lc105, hQ105, l105, y105, z105⟩, st105⟩ := Jvm.LawKit.callS Xj80 hx (y := (⟨"com/example/refertario/refertario/store/EpisodeAdmittedAsPinLaw", "ch", "(II)Ljava/lang/String;"⟩ : MethodName)) hown (mvT hZ (hw _ (own_w 0 rfl))) (mvT hZ (hw _ (own_w 1 rfl))) (mvT hZ (hw _ (own_w 2 rfl))) (mvT hZ (hw _ (own_w 3 rfl))) (by decide) (backOf (W := 0) (rm1 l Z a0 hw [] p2 (16 : Int32) wC hj80 n0 zs98 f104 qC) hZ (hw _ (own_w 3 rfl)) (hw _ (own_w 2 rfl)) (by decide) (by decide)) (g := (mkF m 82 #[.val (.int p1), .val (.int p2), .val (.int p3), .val (.int p4), .val (.int p5), .val (.int p6), .val x6, .val x7, .val x8, .val x9, .val (.ref b73), .val x66, .unset, .unset, .unset, .unset, .unset, .unset, .unset, .unset, .unset, .unset, .unset, .unset, .unset, .unset, .unset, .unset, .unset, .unset] [(.int (16 : Int32)), (.int p2)])) rfl (by rw [hml]; rfl) (argsL := [(.int p2), (.int (16 : Int32))]) (rest := []) (lenOf pd_9 rfl) rfl (by show 2 * 0 + _ ≤ _; exact Nat.le_of_eq rfl) (hb hby at_82) (fun _ _ => ⟨rfl, ej80, (by decide : 12 + 2 ≤ _), (by decide : 30 + 5 ≤ _)⟩)
      dsimp only [Pt.U, Pt.locs, Pt.cells, Pt.slots] at X105 l105 y105 z105 st105 hQ105
      subst l105 y105 z105
      obtain ⟨b106, rfl, Nq105, K105, g107, g108⟩ := hQ105
      have N105 := Fr.app Nj80 Nq105
      have ge109 : n0 ≤ b106 := Nat.le_trans zs98 g107
      have sz110 : hj80.size ≤ b106 := Nat.le_trans kjj100.1 g107
      have zs111 : n0 ≤ T105.heap.size := Nat.le_trans zs98 K105.1
      have kc112 : Keep hj80 T105.heap [] := kjj100.trans K105 all0
      have oc113 : own_OR Z T105.heap (.ref b106) := own_OR.of g108
      have pre114 : own_Go p e below S0 (T105.setTop (mkF m 85 #[.val (.int p1), .val (.int p2), .val (.int p3), .val (.int p4), .val (.int p5), .val (.int p6), .val x6, .val x7, .val x8, .val x9, .val (.ref b73), .val x66, .unset, .unset, .unset, .unset, .unset, .unset, .unset, .unset, .unset, .unset, .unset, .unset, .unset, .unset, .unset, .unset, .unset, .unset] [(.ref b106)])) := by
        intro t kt
        refine pre103 t ?_
        refine st105 _ ?_
        show Steps p.tables e below (T105.setTop (mkF m 85 #[.val (.int p1), .val (.int p2), .val (.int p3), .val (.int p4), .val (.int p5), .val (.int p6), .val x6, .val x7, .val x8, .val x9, .val (.ref b73), .val x66, .unset, .unset, .unset, .unset, .unset, .unset, .unset, .unset, .unset, .unset, .unset, .unset, .unset, .unset, .unset, .unset, .unset, .unset] [(.ref b106)])) _
        exact kt
      exact ⟨(.ref b106), T105, _, _, (Stand.mono X105 (by decide) (by decide)), N105, rfl, kc112, rfl, oc113, pre114⟩
    · have pre115 : own_Go p e below S0 (Tj80.setTop (mkF m 85 #[.val (.int p1), .val (.int p2), .val (.int p3), .val (.int p4), .val (.int p5), .val (.int p6), .val x6, .val x7, .val x8, .val x9, .val (.ref b73), .val x66, .unset, .unset, .unset, .unset, .unset, .unset, .unset, .unset, .unset, .unset, .unset, .unset, .unset, .unset, .unset, .unset, .unset, .unset] [.null])) := by
        intro t kt
        refine pre102 t ?_
        refine XS.ifNo Xj80.here hx rfl (hb hby at_72) rfl ((if0 _ _).trans (feq hc101).1) ?_
        show Steps p.tables e below (Tj80.setTop (mkF m 75 #[.val (.int p1), .val (.int p2), .val (.int p3), .val (.int p4), .val (.int p5), .val (.int p6), .val x6, .val x7, .val x8, .val x9, .val (.ref b73), .val x66, .unset, .unset, .unset, .unset, .unset, .unset, .unset, .unset, .unset, .unset, .unset, .unset, .unset, .unset, .unset, .unset, .unset, .unset] [])) _
        refine XS.aconstNull Xj80.here hx rfl (hb hby at_75) ?_
        show Steps p.tables e below (Tj80.setTop (mkF m 76 #[.val (.int p1), .val (.int p2), .val (.int p3), .val (.int p4), .val (.int p5), .val (.int p6), .val x6, .val x7, .val x8, .val x9, .val (.ref b73), .val x66, .unset, .unset, .unset, .unset, .unset, .unset, .unset, .unset, .unset, .unset, .unset, .unset, .unset, .unset, .unset, .unset, .unset, .unset] [.null])) _
        refine XS.goto Xj80.here hx rfl (pc0 := 76) (pc' := 85) rfl (hb hby at_76) (by decide) (by decide) ?_
        show Steps p.tables e below (Tj80.setTop (mkF m 85 #[.val (.int p1), .val (.int p2), .val (.int p3), .val (.int p4), .val (.int p5), .val (.int p6), .val x6, .val x7, .val x8, .val x9, .val (.ref b73), .val x66, .unset, .unset, .unset, .unset, .unset, .unset, .unset, .unset, .unset, .unset, .unset, .unset, .unset, .unset, .unset, .unset, .unset, .unset] [.null])) _
        exact kt
      exact ⟨.null, Tj80, _, _, (Stand.mono Xj80 (by decide) (by decide)), Nj80, ej80, kjj100, rfl, own_OR.null, pre115⟩
  have zs118 : n0 ≤ hj100.size := Nat.le_trans zs98 Kj100.1
  have pre119 : own_Go p e below S0 (Tj100.setTop (mkF m 87 #[.val (.int p1), .val (.int p2), .val (.int p3), .val (.int p4), .val (.int p5), .val (.int p6), .val x6, .val x7, .val x8, .val x9, .val (.ref b73), .val x66, .val x85, .unset, .unset, .unset, .unset, .unset, .unset, .unset, .unset, .unset, .unset, .unset, .unset, .unset, .unset, .unset, .unset, .unset] [])) := by
    intro t kt
    refine prej100 t ?_
    refine XS.astore Xj100.here hx rfl (hb hby at_85) rfl pj116 (l' := #[.val (.int p1), .val (.int p2), .val (.int p3), .val (.int p4), .val (.int p5), .val (.int p6), .val x6, .val x7, .val x8, .val x9, .val (.ref b73), .val x66, .val x85, .unset, .unset, .unset, .unset, .unset, .unset, .unset, .unset, .unset, .unset, .unset, .unset, .unset, .unset, .unset, .unset, .unset]) (storeLocals_cat1 (x := .unset) rfl (own_cat pj116) trivial) ?_
    show Steps p.tables e below (Tj100.setTop (mkF m 87 #[.val (.int p1), .val (.int p2), .val (.int p3), .val (.int p4), .val (.int p5), .val (.int p6), .val x6, .val x7, .val x8, .val x9, .val (.ref b73), .val x66, .val x85, .unset, .unset, .unset, .unset, .unset, .unset, .unset, .unset, .unset, .unset, .unset, .unset, .unset, .unset, .unset, .unset, .unset] [])) _
    exact kt
  obtain ⟨x105, Tj120, lj120, hj120, Xj120, Nj120, ej120, Kj120, pj136, qj137, prej120⟩ : ∃ (x105 : Value) (Tj120 : State) (lj120 : List Loc) (hj120 : Heap), Stand p l e room_1 s m #[(.int p1), (.int p2), (.int p3), (.int p4), (.int p5), (.int p6)] below meth c Tj120 lj120 16 40 ∧ Fr n0 lj120 ∧ Tj120.heap = hj120 ∧ Keep hj100 hj120 [] ∧ x105.isRef = true ∧ own_OR Z hj120 x105  ∧ own_Go p e below S0 (Tj120.setTop (mkF m 105 #[.val (.int p1), .val (.int p2), .val (.int p3), .val (.int p4), .val (.int p5), .val (.int p6), .val x6, .val x7, .val x8, .val x9, .val (.ref b73), .val x66, .val x85, .unset, .unset, .unset, .unset, .unset, .unset, .unset, .unset, .unset, .unset, .unset, .unset, .unset, .unset, .unset, .unset, .unset] [x105])) := by
    have kjj120 : Keep hj100 hj100 [] := Keep.refl _ _
    have pre122 : own_Go p e below S0 (Tj100.setTop (mkF m 92 #[.val (.int p1), .val (.int p2), .val (.int p3), .val (.int p4), .val (.int p5), .val (.int p6), .val x6, .val x7, .val x8, .val x9, .val (.ref b73), .val x66, .val x85, .unset, .unset, .unset, .unset, .unset, .unset, .unset, .unset, .unset, .unset, .unset, .unset, .unset, .unset, .unset, .unset, .unset] [(.int (p5 &&& (8 : Int32)))])) := by
      intro t kt
      refine pre119 t ?_
      refine XS.iload Xj100.here hx rfl (hb hby at_87) rfl ?_
      show Steps p.tables e below (Tj100.setTop (mkF m 89 #[.val (.int p1), .val (.int p2), .val (.int p3), .val (.int p4), .val (.int p5), .val (.int p6), .val x6, .val x7, .val x8, .val x9, .val (.ref b73), .val x66, .val x85, .unset, .unset, .unset, .unset, .unset, .unset, .unset, .unset, .unset, .unset, .unset, .unset, .unset, .unset, .unset, .unset, .unset] [(.int p5)])) _
      refine XS.bipush Xj100.here hx rfl (hb hby at_89) ?_
      show Steps p.tables e below (Tj100.setTop (mkF m 91 #[.val (.int p1), .val (.int p2), .val (.int p3), .val (.int p4), .val (.int p5), .val (.int p6), .val x6, .val x7, .val x8, .val x9, .val (.ref b73), .val x66, .val x85, .unset, .unset, .unset, .unset, .unset, .unset, .unset, .unset, .unset, .unset, .unset, .unset, .unset, .unset, .unset, .unset, .unset] [(.int (8 : Int32)), (.int p5)])) _
      refine XS.iand Xj100.here hx rfl (hb hby at_91) rfl ?_
      show Steps p.tables e below (Tj100.setTop (mkF m 92 #[.val (.int p1), .val (.int p2), .val (.int p3), .val (.int p4), .val (.int p5), .val (.int p6), .val x6, .val x7, .val x8, .val x9, .val (.ref b73), .val x66, .val x85, .unset, .unset, .unset, .unset, .unset, .unset, .unset, .unset, .unset, .unset, .unset, .unset, .unset, .unset, .unset, .unset, .unset] [(.int (p5 &&& (8 : Int32)))])) _
      exact kt
    by_cases hc121 : (p5 &&& (8 : Int32)) = (0 : Int32)
    · have pre123 : own_Go p e below S0 (Tj100.setTop (mkF m 102 #[.val (.int p1), .val (.int p2), .val (.int p3), .val (.int p4), .val (.int p5), .val (.int p6), .val x6, .val x7, .val x8, .val x9, .val (.ref b73), .val x66, .val x85, .unset, .unset, .unset, .unset, .unset, .unset, .unset, .unset, .unset, .unset, .unset, .unset, .unset, .unset, .unset, .unset, .unset] [(.int (24 : Int32)), (.int p2)])) := by
        intro t kt
        refine pre122 t ?_
        refine XS.ifYes Xj100.here hx rfl (pc0 := 92) (pc' := 99) rfl (hb hby at_92) rfl ((if0 _ _).trans (teq hc121).1) (by decide) (by decide) ?_
        show Steps p.tables e below (Tj100.setTop (mkF m 99 #[.val (.int p1), .val (.int p2), .val (.int p3), .val (.int p4), .val (.int p5), .val (.int p6), .val x6, .val x7, .val x8, .val x9, .val (.ref b73), .val x66, .val x85, .unset, .unset, .unset, .unset, .unset, .unset, .unset, .unset, .unset, .unset, .unset, .unset, .unset, .unset, .unset, .unset, .unset] [])) _
        refine XS.iloadN Xj100.here hx rfl (hb hby at_99) rfl ?_
        show Steps p.tables e below (Tj100.setTop (mkF m 100 #[.val (.int p1), .val (.int p2), .val (.int p3), .val (.int p4), .val (.int p5), .val (.int p6), .val x6, .val x7, .val x8, .val x9, .val (.ref b73), .val x66, .val x85, .unset, .unset, .unset, .unset, .unset, .unset, .unset, .unset, .unset, .unset, .unset, .unset, .unset, .unset, .unset, .unset, .unset] [(.int p2)])) _
        refine XS.bipush Xj100.here hx rfl (hb hby at_100) ?_
        show Steps p.tables e below (Tj100.setTop (mkF m 102 #[.val (.int p1), .val (.int p2), .val (.int p3), .val (.int p4), .val (.int p5), .val (.int p6), .val x6, .val x7, .val x8, .val x9, .val (.ref b73), .val x66, .val x85, .unset, .unset, .unset, .unset, .unset, .unset, .unset, .unset, .unset, .unset, .unset, .unset, .unset, .unset, .unset, .unset, .unset] [(.int (24 : Int32)), (.int p2)])) _
        exact kt
      have f124 : Old Z n0 hj100 := (((f71.keep K72 all0).keep Kj80 all0).keep Kj100 all0)
      obtain ⟨_, _, ⟨T125, L125, k125, n125⟩, -, X125, ⟨Lc125, hQ125, l125, y125, z125⟩, st125⟩ := Jvm.LawKit.callS Xj100 hx (y := (⟨"com/example/refertario/refertario/store/EpisodeAdmittedAsPinLaw", "ch", "(II)Ljava/lang/String;"⟩ : MethodName)) hown (mvT hZ (hw _ (own_w 0 rfl))) (mvT hZ (hw _ (own_w 1 rfl))) (mvT hZ (hw _ (own_w 2 rfl))) (mvT hZ (hw _ (own_w 3 rfl))) (by decide) (backOf (W := 0) (rm1 l Z a0 hw [] p2 (24 : Int32) wC hj100 n0 zs118 f124 qC) hZ (hw _ (own_w 3 rfl)) (hw _ (own_w 2 rfl)) (by decide) (by decide)) (g := (mkF m 102 #[.val (.int p1), .val (.int p2), .val (.int p3), .val (.int p4), .val (.int p5), .val (.int p6), .val x6, .val x7, .val x8, .val x9, .val (.ref b73), .val x66, .val x85, .unset, .unset, .unset, .unset, .unset, .unset, .unset, .unset, .unset, .unset, .unset, .unset, .unset, .unset, .unset, .unset, .unset] [(.int (24 : Int32)), (.int p2)])) rfl (by rw [hml]; rfl) (argsL := [(.int p2), (.int (24 : Int32))]) (rest := []) (lenOf pd_9 rfl) rfl (by show 2 * 0 + _ ≤ _; exact Nat.le_of_eq rfl) (hb hby at_102) (fun _ _ => ⟨rfl, ej100, (by decide : 14 + 2 ≤ _), (by decide : 35 + 5 ≤ _)⟩)
      dsimp only [Pt.U, Pt.locs, Pt.cells, Pt.slots] at X125 l125 y125 z125 st125 hQ125
      subst l125 y125 z125
      obtain ⟨b126, rfl, Nq125, K125, g127, g128⟩ := hQ125
      have N125 := Fr.app Nj100 Nq125
      have ge129 : n0 ≤ b126 := Nat.le_trans zs118 g127
      have sz130 : hj100.size ≤ b126 := Nat.le_trans kjj120.1 g127
      have zs131 : n0 ≤ T125.heap.size := Nat.le_trans zs118 K125.1
      have kc132 : Keep hj100 T125.heap [] := kjj120.trans K125 all0
      have oc133 : own_OR Z T125.heap (.ref b126) := own_OR.of g128
      have pre134 : own_Go p e below S0 (T125.setTop (mkF m 105 #[.val (.int p1), .val (.int p2), .val (.int p3), .val (.int p4), .val (.int p5), .val (.int p6), .val x6, .val x7, .val x8, .val x9, .val (.ref b73), .val x66, .val x85, .unset, .unset, .unset, .unset, .unset, .unset, .unset, .unset, .unset, .unset, .unset, .unset, .unset, .unset, .unset, .unset, .unset] [(.ref b126)])) := by
        intro t kt
        refine pre123 t ?_
        refine st125 _ ?_
        show Steps p.tables e below (T125.setTop (mkF m 105 #[.val (.int p1), .val (.int p2), .val (.int p3), .val (.int p4), .val (.int p5), .val (.int p6), .val x6, .val x7, .val x8, .val x9, .val (.ref b73), .val x66, .val x85, .unset, .unset, .unset, .unset, .unset, .unset, .unset, .unset, .unset, .unset, .unset, .unset, .unset, .unset, .unset, .unset, .unset] [(.ref b126)])) _
        exact kt
      exact ⟨(.ref b126), T125, _, _, (Stand.mono X125 (by decide) (by decide)), N125, rfl, kc132, rfl, oc133, pre134⟩
    · have pre135 : own_Go p e below S0 (Tj100.setTop (mkF m 105 #[.val (.int p1), .val (.int p2), .val (.int p3), .val (.int p4), .val (.int p5), .val (.int p6), .val x6, .val x7, .val x8, .val x9, .val (.ref b73), .val x66, .val x85, .unset, .unset, .unset, .unset, .unset, .unset, .unset, .unset, .unset, .unset, .unset, .unset, .unset, .unset, .unset, .unset, .unset] [.null])) := by
        intro t kt
        refine pre122 t ?_
        refine XS.ifNo Xj100.here hx rfl (hb hby at_92) rfl ((if0 _ _).trans (feq hc121).1) ?_
        show Steps p.tables e below (Tj100.setTop (mkF m 95 #[.val (.int p1), .val (.int p2), .val (.int p3), .val (.int p4), .val (.int p5), .val (.int p6), .val x6, .val x7, .val x8, .val x9, .val (.ref b73), .val x66, .val x85, .unset, .unset, .unset, .unset, .unset, .unset, .unset, .unset, .unset, .unset, .unset, .unset, .unset, .unset, .unset, .unset, .unset] [])) _
        refine XS.aconstNull Xj100.here hx rfl (hb hby at_95) ?_
        show Steps p.tables e below (Tj100.setTop (mkF m 96 #[.val (.int p1), .val (.int p2), .val (.int p3), .val (.int p4), .val (.int p5), .val (.int p6), .val x6, .val x7, .val x8, .val x9, .val (.ref b73), .val x66, .val x85, .unset, .unset, .unset, .unset, .unset, .unset, .unset, .unset, .unset, .unset, .unset, .unset, .unset, .unset, .unset, .unset, .unset] [.null])) _
        refine XS.goto Xj100.here hx rfl (pc0 := 96) (pc' := 105) rfl (hb hby at_96) (by decide) (by decide) ?_
        show Steps p.tables e below (Tj100.setTop (mkF m 105 #[.val (.int p1), .val (.int p2), .val (.int p3), .val (.int p4), .val (.int p5), .val (.int p6), .val x6, .val x7, .val x8, .val x9, .val (.ref b73), .val x66, .val x85, .unset, .unset, .unset, .unset, .unset, .unset, .unset, .unset, .unset, .unset, .unset, .unset, .unset, .unset, .unset, .unset, .unset] [.null])) _
        exact kt
      exact ⟨.null, Tj100, _, _, (Stand.mono Xj100 (by decide) (by decide)), Nj100, ej100, kjj120, rfl, own_OR.null, pre135⟩
  have zs138 : n0 ≤ hj120.size := Nat.le_trans zs118 Kj120.1
  have pre139 : own_Go p e below S0 (Tj120.setTop (mkF m 109 #[.val (.int p1), .val (.int p2), .val (.int p3), .val (.int p4), .val (.int p5), .val (.int p6), .val x6, .val x7, .val x8, .val x9, .val (.ref b73), .val x66, .val x85, .val x105, .unset, .unset, .unset, .unset, .unset, .unset, .unset, .unset, .unset, .unset, .unset, .unset, .unset, .unset, .unset, .unset] [(.int p6)])) := by
    intro t kt
    refine prej120 t ?_
    refine XS.astore Xj120.here hx rfl (hb hby at_105) rfl pj136 (l' := #[.val (.int p1), .val (.int p2), .val (.int p3), .val (.int p4), .val (.int p5), .val (.int p6), .val x6, .val x7, .val x8, .val x9, .val (.ref b73), .val x66, .val x85, .val x105, .unset, .unset, .unset, .unset, .unset, .unset, .unset, .unset, .unset, .unset, .unset, .unset, .unset, .unset, .unset, .unset]) (storeLocals_cat1 (x := .unset) rfl (own_cat pj136) trivial) ?_
    show Steps p.tables e below (Tj120.setTop (mkF m 107 #[.val (.int p1), .val (.int p2), .val (.int p3), .val (.int p4), .val (.int p5), .val (.int p6), .val x6, .val x7, .val x8, .val x9, .val (.ref b73), .val x66, .val x85, .val x105, .unset, .unset, .unset, .unset, .unset, .unset, .unset, .unset, .unset, .unset, .unset, .unset, .unset, .unset, .unset, .unset] [])) _
    refine XS.iload Xj120.here hx rfl (hb hby at_107) rfl ?_
    show Steps p.tables e below (Tj120.setTop (mkF m 109 #[.val (.int p1), .val (.int p2), .val (.int p3), .val (.int p4), .val (.int p5), .val (.int p6), .val x6, .val x7, .val x8, .val x9, .val (.ref b73), .val x66, .val x85, .val x105, .unset, .unset, .unset, .unset, .unset, .unset, .unset, .unset, .unset, .unset, .unset, .unset, .unset, .unset, .unset, .unset] [(.int p6)])) _
    exact kt
  have f140 := (((f71.keep K72 all0).keep Kj80 all0).keep Kj100 all0)
  have f141 : Old Z n0 hj120 := (f140.keep Kj120 all0)
  obtain ⟨_, _, ⟨T142, L142, k142, n142⟩, -, X142, ⟨Lc142, hQ142, l142, y142, z142⟩, st142⟩ := Jvm.LawKit.callS Xj120 hx (y := (⟨"com/example/refertario/refertario/store/EpisodeAdmittedAsPinLaw", "status", "(I)Lcom/example/refertario/refertario/store/Episode$Status;"⟩ : MethodName)) hown (mvT hZ (hw _ (own_w 30 rfl))) (mvT hZ (hw _ (own_w 31 rfl))) (mvT hZ (hw _ (own_w 2 rfl))) (mvT hZ (hw _ (own_w 32 rfl))) (by decide) (backOf (W := 0) (rm7 l Z a0 hw [] p6 wOPEN wCLOSED wCANCELLED hj120 n0 zs138 f141 SOPEN SCLOSED SCANCELLED) hZ (hw _ (own_w 32 rfl)) (hw _ (own_w 2 rfl)) (by decide) (by decide)) (g := (mkF m 109 #[.val (.int p1), .val (.int p2), .val (.int p3), .val (.int p4), .val (.int p5), .val (.int p6), .val x6, .val x7, .val x8, .val x9, .val (.ref b73), .val x66, .val x85, .val x105, .unset, .unset, .unset, .unset, .unset, .unset, .unset, .unset, .unset, .unset, .unset, .unset, .unset, .unset, .unset, .unset] [(.int p6)])) rfl (by rw [hml]; rfl) (argsL := [(.int p6)]) (rest := []) (lenOf pd_10 rfl) rfl (by show 2 * 0 + _ ≤ _; exact Nat.le_of_eq rfl) (hb hby at_109) (fun _ _ => ⟨rfl, ej120, (by decide : 16 + 0 ≤ _), (by decide : 40 + 0 ≤ _)⟩)
  dsimp only [Pt.U, Pt.locs, Pt.cells, Pt.slots] at X142 l142 y142 z142 st142 hQ142
  subst l142 y142 z142
  obtain ⟨rfl, Nq142, eq142⟩ := hQ142
  have N142 := Fr.app Nj120 Nq142
  have pre143 : own_Go p e below S0 (T142.setTop (mkF m 114 #[.val (.int p1), .val (.int p2), .val (.int p3), .val (.int p4), .val (.int p5), .val (.int p6), .val x6, .val x7, .val x8, .val x9, .val (.ref b73), .val x66, .val x85, .val x105, .val (.ref (own_st p6 wOPEN wCLOSED wCANCELLED)), .unset, .unset, .unset, .unset, .unset, .unset, .unset, .unset, .unset, .unset, .unset, .unset, .unset, .unset, .unset] [])) := by
    intro t kt
    refine pre139 t ?_
    refine st142 _ ?_
    show Steps p.tables e below (T142.setTop (mkF m 112 #[.val (.int p1), .val (.int p2), .val (.int p3), .val (.int p4), .val (.int p5), .val (.int p6), .val x6, .val x7, .val x8, .val x9, .val (.ref b73), .val x66, .val x85, .val x105, .unset, .unset, .unset, .unset, .unset, .unset, .unset, .unset, .unset, .unset, .unset, .unset, .unset, .unset, .unset, .unset] [(.ref (own_st p6 wOPEN wCLOSED wCANCELLED))])) _
    refine XS.astore X142.here hx rfl (hb hby at_112) rfl rfl (l' := #[.val (.int p1), .val (.int p2), .val (.int p3), .val (.int p4), .val (.int p5), .val (.int p6), .val x6, .val x7, .val x8, .val x9, .val (.ref b73), .val x66, .val x85, .val x105, .val (.ref (own_st p6 wOPEN wCLOSED wCANCELLED)), .unset, .unset, .unset, .unset, .unset, .unset, .unset, .unset, .unset, .unset, .unset, .unset, .unset, .unset, .unset]) rfl ?_
    show Steps p.tables e below (T142.setTop (mkF m 114 #[.val (.int p1), .val (.int p2), .val (.int p3), .val (.int p4), .val (.int p5), .val (.int p6), .val x6, .val x7, .val x8, .val x9, .val (.ref b73), .val x66, .val x85, .val x105, .val (.ref (own_st p6 wOPEN wCLOSED wCANCELLED)), .unset, .unset, .unset, .unset, .unset, .unset, .unset, .unset, .unset, .unset, .unset, .unset, .unset, .unset, .unset] [])) _
    exact kt
  obtain ⟨x15, x16, x17, x18, Tj144, lj144, hj144, Xj144, Nj144, ej144, Kj144, pj204, pj205, pj206, pj207, qj208, qj209, qj210, qj211, prej144⟩ : ∃ (x15 : Value) (x16 : Value) (x17 : Value) (x18 : Value) (Tj144 : State) (lj144 : List Loc) (hj144 : Heap), Stand p l e room_1 s m #[(.int p1), (.int p2), (.int p3), (.int p4), (.int p5), (.int p6)] below meth c Tj144 lj144 24 60 ∧ Fr n0 lj144 ∧ Tj144.heap = hj144 ∧ Keep hj120 hj144 [] ∧ x15.isRef = true ∧ x16.isRef = true ∧ x17.isRef = true ∧ x18.isRef = true ∧ own_OR Z hj144 x15  ∧ own_OR Z hj144 x16  ∧ own_OR Z hj144 x17  ∧ own_OR Z hj144 x18  ∧ own_Go p e below S0 (Tj144.setTop (mkF m 157 #[.val (.int p1), .val (.int p2), .val (.int p3), .val (.int p4), .val (.int p5), .val (.int p6), .val x6, .val x7, .val x8, .val x9, .val (.ref b73), .val x66, .val x85, .val x105, .val (.ref (own_st p6 wOPEN wCLOSED wCANCELLED)), .val x15, .val x16, .val x17, .val x18, .unset, .unset, .unset, .unset, .unset, .unset, .unset, .unset, .unset, .unset, .unset] [])) := by
    have kjj144 : Keep hj120 hj120 [] := Keep.refl _ _
    have pre145 : own_Go p e below S0 (T142.setTop (mkF m 116 #[.val (.int p1), .val (.int p2), .val (.int p3), .val (.int p4), .val (.int p5), .val (.int p6), .val x6, .val x7, .val x8, .val x9, .val (.ref b73), .val x66, .val x85, .val x105, .val (.ref (own_st p6 wOPEN wCLOSED wCANCELLED)), .unset, .unset, .unset, .unset, .unset, .unset, .unset, .unset, .unset, .unset, .unset, .unset, .unset, .unset, .unset] [(.int (0 : Int32)), (.int p3)])) := by
      intro t kt
      refine pre143 t ?_
      refine XS.iloadN X142.here hx rfl (hb hby at_114) rfl ?_
      show Steps p.tables e below (T142.setTop (mkF m 115 #[.val (.int p1), .val (.int p2), .val (.int p3), .val (.int p4), .val (.int p5), .val (.int p6), .val x6, .val x7, .val x8, .val x9, .val (.ref b73), .val x66, .val x85, .val x105, .val (.ref (own_st p6 wOPEN wCLOSED wCANCELLED)), .unset, .unset, .unset, .unset, .unset, .unset, .unset, .unset, .unset, .unset, .unset, .unset, .unset, .unset, .unset] [(.int p3)])) _
      refine XS.iconst X142.here hx rfl (hb hby at_115) ?_
      show Steps p.tables e below (T142.setTop (mkF m 116 #[.val (.int p1), .val (.int p2), .val (.int p3), .val (.int p4), .val (.int p5), .val (.int p6), .val x6, .val x7, .val x8, .val x9, .val (.ref b73), .val x66, .val x85, .val x105, .val (.ref (own_st p6 wOPEN wCLOSED wCANCELLED)), .unset, .unset, .unset, .unset, .unset, .unset, .unset, .unset, .unset, .unset, .unset, .unset, .unset, .unset, .unset] [(.int (0 : Int32)), (.int p3)])) _
      exact kt
    obtain ⟨_, _, ⟨T146, L146, k146, n146⟩, -, X146, ⟨Lc146, hQ146, l146, y146, z146⟩, st146⟩ := Jvm.LawKit.callS X142 hx (y := (⟨"com/example/refertario/refertario/store/EpisodeAdmittedAsPinLaw", "ch", "(II)Ljava/lang/String;"⟩ : MethodName)) hown (mvT hZ (hw _ (own_w 0 rfl))) (mvT hZ (hw _ (own_w 1 rfl))) (mvT hZ (hw _ (own_w 2 rfl))) (mvT hZ (hw _ (own_w 3 rfl))) (by decide) (backOf (W := 0) (rm1 l Z a0 hw [] p3 (0 : Int32) wC hj120 n0 zs138 f141 qC) hZ (hw _ (own_w 3 rfl)) (hw _ (own_w 2 rfl)) (by decide) (by decide)) (g := (mkF m 116 #[.val (.int p1), .val (.int p2), .val (.int p3), .val (.int p4), .val (.int p5), .val (.int p6), .val x6, .val x7, .val x8, .val x9, .val (.ref b73), .val x66, .val x85, .val x105, .val (.ref (own_st p6 wOPEN wCLOSED wCANCELLED)), .unset, .unset, .unset, .unset, .unset, .unset, .unset, .unset, .unset, .unset, .unset, .unset, .unset, .unset, .unset] [(.int (0 : Int32)), (.int p3)])) rfl (by rw [hml]; rfl) (argsL := [(.int p3), (.int (0 : Int32))]) (rest := []) (lenOf pd_9 rfl) rfl (by show 2 * 0 + _ ≤ _; exact Nat.le_of_eq rfl) (hb hby at_116) (fun _ _ => ⟨rfl, eq142, (by decide : 16 + 2 ≤ _), (by decide : 40 + 5 ≤ _)⟩)
    dsimp only [Pt.U, Pt.locs, Pt.cells, Pt.slots] at X146 l146 y146 z146 st146 hQ146
    subst l146 y146 z146
    obtain ⟨b147, rfl, Nq146, K146, g148, g149⟩ := hQ146
    have N146 := Fr.app N142 Nq146
    have ge150 : n0 ≤ b147 := Nat.le_trans zs138 g148
    have sz151 : hj120.size ≤ b147 := Nat.le_trans kjj144.1 g148
    have zs152 : n0 ≤ T146.heap.size := Nat.le_trans zs138 K146.1
    have kc153 : Keep hj120 T146.heap [] := kjj144.trans K146 all0
    have oc154 : own_OR Z T146.heap (.ref b147) := own_OR.of g149
    have pre155 : own_Go p e below S0 (T146.setTop (mkF m 124 #[.val (.int p1), .val (.int p2), .val (.int p3), .val (.int p4), .val (.int p5), .val (.int p6), .val x6, .val x7, .val x8, .val x9, .val (.ref b73), .val x66, .val x85, .val x105, .val (.ref (own_st p6 wOPEN wCLOSED wCANCELLED)), .val (.ref b147), .unset, .unset, .unset, .unset, .unset, .unset, .unset, .unset, .unset, .unset, .unset, .unset, .unset, .unset] [(.int (8 : Int32)), (.int p3)])) := by
      intro t kt
      refine pre145 t ?_
      refine st146 _ ?_
      show Steps p.tables e below (T146.setTop (mkF m 119 #[.val (.int p1), .val (.int p2), .val (.int p3), .val (.int p4), .val (.int p5), .val (.int p6), .val x6, .val x7, .val x8, .val x9, .val (.ref b73), .val x66, .val x85, .val x105, .val (.ref (own_st p6 wOPEN wCLOSED wCANCELLED)), .unset, .unset, .unset, .unset, .unset, .unset, .unset, .unset, .unset, .unset, .unset, .unset, .unset, .unset, .unset] [(.ref b147)])) _
      refine XS.astore X146.here hx rfl (hb hby at_119) rfl rfl (l' := #[.val (.int p1), .val (.int p2), .val (.int p3), .val (.int p4), .val (.int p5), .val (.int p6), .val x6, .val x7, .val x8, .val x9, .val (.ref b73), .val x66, .val x85, .val x105, .val (.ref (own_st p6 wOPEN wCLOSED wCANCELLED)), .val (.ref b147), .unset, .unset, .unset, .unset, .unset, .unset, .unset, .unset, .unset, .unset, .unset, .unset, .unset, .unset]) rfl ?_
      show Steps p.tables e below (T146.setTop (mkF m 121 #[.val (.int p1), .val (.int p2), .val (.int p3), .val (.int p4), .val (.int p5), .val (.int p6), .val x6, .val x7, .val x8, .val x9, .val (.ref b73), .val x66, .val x85, .val x105, .val (.ref (own_st p6 wOPEN wCLOSED wCANCELLED)), .val (.ref b147), .unset, .unset, .unset, .unset, .unset, .unset, .unset, .unset, .unset, .unset, .unset, .unset, .unset, .unset] [])) _
      refine XS.iloadN X146.here hx rfl (hb hby at_121) rfl ?_
      show Steps p.tables e below (T146.setTop (mkF m 122 #[.val (.int p1), .val (.int p2), .val (.int p3), .val (.int p4), .val (.int p5), .val (.int p6), .val x6, .val x7, .val x8, .val x9, .val (.ref b73), .val x66, .val x85, .val x105, .val (.ref (own_st p6 wOPEN wCLOSED wCANCELLED)), .val (.ref b147), .unset, .unset, .unset, .unset, .unset, .unset, .unset, .unset, .unset, .unset, .unset, .unset, .unset, .unset] [(.int p3)])) _
      refine XS.bipush X146.here hx rfl (hb hby at_122) ?_
      show Steps p.tables e below (T146.setTop (mkF m 124 #[.val (.int p1), .val (.int p2), .val (.int p3), .val (.int p4), .val (.int p5), .val (.int p6), .val x6, .val x7, .val x8, .val x9, .val (.ref b73), .val x66, .val x85, .val x105, .val (.ref (own_st p6 wOPEN wCLOSED wCANCELLED)), .val (.ref b147), .unset, .unset, .unset, .unset, .unset, .unset, .unset, .unset, .unset, .unset, .unset, .unset, .unset, .unset] [(.int (8 : Int32)), (.int p3)])) _
      exact kt
    have f156 : Old Z n0 T146.heap := (f141.keep K146 all0)
    obtain ⟨_, _, ⟨T157, L157, k157, n157⟩, -, X157, ⟨Lc157, hQ157, l157, y157, z157⟩, st157⟩ := Jvm.LawKit.callS X146 hx (y := (⟨"com/example/refertario/refertario/store/EpisodeAdmittedAsPinLaw", "ch", "(II)Ljava/lang/String;"⟩ : MethodName)) hown (mvT hZ (hw _ (own_w 0 rfl))) (mvT hZ (hw _ (own_w 1 rfl))) (mvT hZ (hw _ (own_w 2 rfl))) (mvT hZ (hw _ (own_w 3 rfl))) (by decide) (backOf (W := 0) (rm1 l Z a0 hw [] p3 (8 : Int32) wC T146.heap n0 zs152 f156 qC) hZ (hw _ (own_w 3 rfl)) (hw _ (own_w 2 rfl)) (by decide) (by decide)) (g := (mkF m 124 #[.val (.int p1), .val (.int p2), .val (.int p3), .val (.int p4), .val (.int p5), .val (.int p6), .val x6, .val x7, .val x8, .val x9, .val (.ref b73), .val x66, .val x85, .val x105, .val (.ref (own_st p6 wOPEN wCLOSED wCANCELLED)), .val (.ref b147), .unset, .unset, .unset, .unset, .unset, .unset, .unset, .unset, .unset, .unset, .unset, .unset, .unset, .unset] [(.int (8 : Int32)), (.int p3)])) rfl (by rw [hml]; rfl) (argsL := [(.int p3), (.int (8 : Int32))]) (rest := []) (lenOf pd_9 rfl) rfl (by show 2 * 0 + _ ≤ _; exact Nat.le_of_eq rfl) (hb hby at_124) (fun _ _ => ⟨rfl, rfl, (by decide : 18 + 2 ≤ _), (by decide : 45 + 5 ≤ _)⟩)
    dsimp only [Pt.U, Pt.locs, Pt.cells, Pt.slots] at X157 l157 y157 z157 st157 hQ157
    subst l157 y157 z157
    obtain ⟨b158, rfl, Nq157, K157, g159, g160⟩ := hQ157
    have N157 := Fr.app N146 Nq157
    have ge161 : n0 ≤ b158 := Nat.le_trans zs152 g159
    have sz162 : hj120.size ≤ b158 := Nat.le_trans kc153.1 g159
    have zs163 : n0 ≤ T157.heap.size := Nat.le_trans zs152 K157.1
    have kc164 : Keep hj120 T157.heap [] := kc153.trans K157 all0
    have oc165 : own_OR Z T157.heap (.ref b158) := own_OR.of g160
    have pre166 : own_Go p e below S0 (T157.setTop (mkF m 129 #[.val (.int p1), .val (.int p2), .val (.int p3), .val (.int p4), .val (.int p5), .val (.int p6), .val x6, .val x7, .val x8, .val x9, .val (.ref b73), .val x66, .val x85, .val x105, .val (.ref (own_st p6 wOPEN wCLOSED wCANCELLED)), .val (.ref b147), .val (.ref b158), .unset, .unset, .unset, .unset, .unset, .unset, .unset, .unset, .unset, .unset, .unset, .unset, .unset] [])) := by
      intro t kt
      refine pre155 t ?_
      refine st157 _ ?_
      show Steps p.tables e below (T157.setTop (mkF m 127 #[.val (.int p1), .val (.int p2), .val (.int p3), .val (.int p4), .val (.int p5), .val (.int p6), .val x6, .val x7, .val x8, .val x9, .val (.ref b73), .val x66, .val x85, .val x105, .val (.ref (own_st p6 wOPEN wCLOSED wCANCELLED)), .val (.ref b147), .unset, .unset, .unset, .unset, .unset, .unset, .unset, .unset, .unset, .unset, .unset, .unset, .unset, .unset] [(.ref b158)])) _
      refine XS.astore X157.here hx rfl (hb hby at_127) rfl rfl (l' := #[.val (.int p1), .val (.int p2), .val (.int p3), .val (.int p4), .val (.int p5), .val (.int p6), .val x6, .val x7, .val x8, .val x9, .val (.ref b73), .val x66, .val x85, .val x105, .val (.ref (own_st p6 wOPEN wCLOSED wCANCELLED)), .val (.ref b147), .val (.ref b158), .unset, .unset, .unset, .unset, .unset, .unset, .unset, .unset, .unset, .unset, .unset, .unset, .unset]) rfl ?_
      show Steps p.tables e below (T157.setTop (mkF m 129 #[.val (.int p1), .val (.int p2), .val (.int p3), .val (.int p4), .val (.int p5), .val (.int p6), .val x6, .val x7, .val x8, .val x9, .val (.ref b73), .val x66, .val x85, .val x105, .val (.ref (own_st p6 wOPEN wCLOSED wCANCELLED)), .val (.ref b147), .val (.ref b158), .unset, .unset, .unset, .unset, .unset, .unset, .unset, .unset, .unset, .unset, .unset, .unset, .unset] [])) _
      exact kt
    obtain ⟨x147, Tj167, lj167, hj167, Xj167, Nj167, ej167, Kj167, pj185, qj186, prej167⟩ : ∃ (x147 : Value) (Tj167 : State) (lj167 : List Loc) (hj167 : Heap), Stand p l e room_1 s m #[(.int p1), (.int p2), (.int p3), (.int p4), (.int p5), (.int p6)] below meth c Tj167 lj167 22 55 ∧ Fr n0 lj167 ∧ Tj167.heap = hj167 ∧ Keep T157.heap hj167 [] ∧ x147.isRef = true ∧ own_OR Z hj167 x147  ∧ own_Go p e below S0 (Tj167.setTop (mkF m 147 #[.val (.int p1), .val (.int p2), .val (.int p3), .val (.int p4), .val (.int p5), .val (.int p6), .val x6, .val x7, .val x8, .val x9, .val (.ref b73), .val x66, .val x85, .val x105, .val (.ref (own_st p6 wOPEN wCLOSED wCANCELLED)), .val (.ref b147), .val (.ref b158), .unset, .unset, .unset, .unset, .unset, .unset, .unset, .unset, .unset, .unset, .unset, .unset, .unset] [x147])) := by
      have kjj167 : Keep T157.heap T157.heap [] := Keep.refl _ _
      have pre169 : own_Go p e below S0 (T157.setTop (mkF m 134 #[.val (.int p1), .val (.int p2), .val (.int p3), .val (.int p4), .val (.int p5), .val (.int p6), .val x6, .val x7, .val x8, .val x9, .val (.ref b73), .val x66, .val x85, .val x105, .val (.ref (own_st p6 wOPEN wCLOSED wCANCELLED)), .val (.ref b147), .val (.ref b158), .unset, .unset, .unset, .unset, .unset, .unset, .unset, .unset, .unset, .unset, .unset, .unset, .unset] [(.int (p5 &&& (16 : Int32)))])) := by
        intro t kt
        refine pre166 t ?_
        refine XS.iload X157.here hx rfl (hb hby at_129) rfl ?_
        show Steps p.tables e below (T157.setTop (mkF m 131 #[.val (.int p1), .val (.int p2), .val (.int p3), .val (.int p4), .val (.int p5), .val (.int p6), .val x6, .val x7, .val x8, .val x9, .val (.ref b73), .val x66, .val x85, .val x105, .val (.ref (own_st p6 wOPEN wCLOSED wCANCELLED)), .val (.ref b147), .val (.ref b158), .unset, .unset, .unset, .unset, .unset, .unset, .unset, .unset, .unset, .unset, .unset, .unset, .unset] [(.int p5)])) _
        refine XS.bipush X157.here hx rfl (hb hby at_131) ?_
        show Steps p.tables e below (T157.setTop (mkF m 133 #[.val (.int p1), .val (.int p2), .val (.int p3), .val (.int p4), .val (.int p5), .val (.int p6), .val x6, .val x7, .val x8, .val x9, .val (.ref b73), .val x66, .val x85, .val x105, .val (.ref (own_st p6 wOPEN wCLOSED wCANCELLED)), .val (.ref b147), .val (.ref b158), .unset, .unset, .unset, .unset, .unset, .unset, .unset, .unset, .unset, .unset, .unset, .unset, .unset] [(.int (16 : Int32)), (.int p5)])) _
        refine XS.iand X157.here hx rfl (hb hby at_133) rfl ?_
        show Steps p.tables e below (T157.setTop (mkF m 134 #[.val (.int p1), .val (.int p2), .val (.int p3), .val (.int p4), .val (.int p5), .val (.int p6), .val x6, .val x7, .val x8, .val x9, .val (.ref b73), .val x66, .val x85, .val x105, .val (.ref (own_st p6 wOPEN wCLOSED wCANCELLED)), .val (.ref b147), .val (.ref b158), .unset, .unset, .unset, .unset, .unset, .unset, .unset, .unset, .unset, .unset, .unset, .unset, .unset] [(.int (p5 &&& (16 : Int32)))])) _
        exact kt
      by_cases hc168 : (p5 &&& (16 : Int32)) = (0 : Int32)
      · have pre170 : own_Go p e below S0 (T157.setTop (mkF m 144 #[.val (.int p1), .val (.int p2), .val (.int p3), .val (.int p4), .val (.int p5), .val (.int p6), .val x6, .val x7, .val x8, .val x9, .val (.ref b73), .val x66, .val x85, .val x105, .val (.ref (own_st p6 wOPEN wCLOSED wCANCELLED)), .val (.ref b147), .val (.ref b158), .unset, .unset, .unset, .unset, .unset, .unset, .unset, .unset, .unset, .unset, .unset, .unset, .unset] [(.int (16 : Int32)), (.int p3)])) := by
          intro t kt
          refine pre169 t ?_
          refine XS.ifYes X157.here hx rfl (pc0 := 134) (pc' := 141) rfl (hb hby at_134) rfl ((if0 _ _).trans (teq hc168).1) (by decide) (by decide) ?_
          show Steps p.tables e below (T157.setTop (mkF m 141 #[.val (.int p1), .val (.int p2), .val (.int p3), .val (.int p4), .val (.int p5), .val (.int p6), .val x6, .val x7, .val x8, .val x9, .val (.ref b73), .val x66, .val x85, .val x105, .val (.ref (own_st p6 wOPEN wCLOSED wCANCELLED)), .val (.ref b147), .val (.ref b158), .unset, .unset, .unset, .unset, .unset, .unset, .unset, .unset, .unset, .unset, .unset, .unset, .unset] [])) _
          refine XS.iloadN X157.here hx rfl (hb hby at_141) rfl ?_
          show Steps p.tables e below (T157.setTop (mkF m 142 #[.val (.int p1), .val (.int p2), .val (.int p3), .val (.int p4), .val (.int p5), .val (.int p6), .val x6, .val x7, .val x8, .val x9, .val (.ref b73), .val x66, .val x85, .val x105, .val (.ref (own_st p6 wOPEN wCLOSED wCANCELLED)), .val (.ref b147), .val (.ref b158), .unset, .unset, .unset, .unset, .unset, .unset, .unset, .unset, .unset, .unset, .unset, .unset, .unset] [(.int p3)])) _
          refine XS.bipush X157.here hx rfl (hb hby at_142) ?_
          show Steps p.tables e below (T157.setTop (mkF m 144 #[.val (.int p1), .val (.int p2), .val (.int p3), .val (.int p4), .val (.int p5), .val (.int p6), .val x6, .val x7, .val x8, .val x9, .val (.ref b73), .val x66, .val x85, .val x105, .val (.ref (own_st p6 wOPEN wCLOSED wCANCELLED)), .val (.ref b147), .val (.ref b158), .unset, .unset, .unset, .unset, .unset, .unset, .unset, .unset, .unset, .unset, .unset, .unset, .unset] [(.int (16 : Int32)), (.int p3)])) _
          exact kt
        have f171 : Old Z n0 T157.heap := (f156.keep K157 all0)
        obtain ⟨_, _, ⟨T172, L172, k172, n172⟩, -, X172, ⟨Lc172, hQ172, l172, y172, z172⟩, st172⟩ := Jvm.LawKit.callS X157 hx (y := (⟨"com/example/refertario/refertario/store/EpisodeAdmittedAsPinLaw", "ch", "(II)Ljava/lang/String;"⟩ : MethodName)) hown (mvT hZ (hw _ (own_w 0 rfl))) (mvT hZ (hw _ (own_w 1 rfl))) (mvT hZ (hw _ (own_w 2 rfl))) (mvT hZ (hw _ (own_w 3 rfl))) (by decide) (backOf (W := 0) (rm1 l Z a0 hw [] p3 (16 : Int32) wC T157.heap n0 zs163 f171 qC) hZ (hw _ (own_w 3 rfl)) (hw _ (own_w 2 rfl)) (by decide) (by decide)) (g := (mkF m 144 #[.val (.int p1), .val (.int p2), .val (.int p3), .val (.int p4), .val (.int p5), .val (.int p6), .val x6, .val x7, .val x8, .val x9, .val (.ref b73), .val x66, .val x85, .val x105, .val (.ref (own_st p6 wOPEN wCLOSED wCANCELLED)), .val (.ref b147), .val (.ref b158), .unset, .unset, .unset, .unset, .unset, .unset, .unset, .unset, .unset, .unset, .unset, .unset, .unset] [(.int (16 : Int32)), (.int p3)])) rfl (by rw [hml]; rfl) (argsL := [(.int p3), (.int (16 : Int32))]) (rest := []) (lenOf pd_9 rfl) rfl (by show 2 * 0 + _ ≤ _; exact Nat.le_of_eq rfl) (hb hby at_144) (fun _ _ => ⟨rfl, rfl, (by decide : 20 + 2 ≤ _), (by decide : 50 + 5 ≤ _)⟩)
        dsimp only [Pt.U, Pt.locs, Pt.cells, Pt.slots] at X172 l172 y172 z172 st172 hQ172
        subst l172 y172 z172
        obtain ⟨b173, rfl, Nq172, K172, g174, g175⟩ := hQ172
        have N172 := Fr.app N157 Nq172
        have ge176 : n0 ≤ b173 := Nat.le_trans zs163 g174
        have sz177 : hj120.size ≤ b173 := Nat.le_trans kc164.1 g174
        have sz178 : T157.heap.size ≤ b173 := Nat.le_trans kjj167.1 g174
        have zs179 : n0 ≤ T172.heap.size := Nat.le_trans zs163 K172.1
        have kc180 : Keep hj120 T172.heap [] := kc164.trans K172 all0
        have kc181 : Keep T157.heap T172.heap [] := kjj167.trans K172 all0
        have oc182 : own_OR Z T172.heap (.ref b173) := own_OR.of g175
        have pre183 : own_Go p e below S0 (T172.setTop (mkF m 147 #[.val (.int p1), .val (.int p2), .val (.int p3), .val (.int p4), .val (.int p5), .val (.int p6), .val x6, .val x7, .val x8, .val x9, .val (.ref b73), .val x66, .val x85, .val x105, .val (.ref (own_st p6 wOPEN wCLOSED wCANCELLED)), .val (.ref b147), .val (.ref b158), .unset, .unset, .unset, .unset, .unset, .unset, .unset, .unset, .unset, .unset, .unset, .unset, .unset] [(.ref b173)])) := by
          intro t kt
          refine pre170 t ?_
          refine st172 _ ?_
          show Steps p.tables e below (T172.setTop (mkF m 147 #[.val (.int p1), .val (.int p2), .val (.int p3), .val (.int p4), .val (.int p5), .val (.int p6), .val x6, .val x7, .val x8, .val x9, .val (.ref b73), .val x66, .val x85, .val x105, .val (.ref (own_st p6 wOPEN wCLOSED wCANCELLED)), .val (.ref b147), .val (.ref b158), .unset, .unset, .unset, .unset, .unset, .unset, .unset, .unset, .unset, .unset, .unset, .unset, .unset] [(.ref b173)])) _
          exact kt
        exact ⟨(.ref b173), T172, _, _, (Stand.mono X172 (by decide) (by decide)), N172, rfl, kc181, rfl, oc182, pre183⟩
      · have pre184 : own_Go p e below S0 (T157.setTop (mkF m 147 #[.val (.int p1), .val (.int p2), .val (.int p3), .val (.int p4), .val (.int p5), .val (.int p6), .val x6, .val x7, .val x8, .val x9, .val (.ref b73), .val x66, .val x85, .val x105, .val (.ref (own_st p6 wOPEN wCLOSED wCANCELLED)), .val (.ref b147), .val (.ref b158), .unset, .unset, .unset, .unset, .unset, .unset, .unset, .unset, .unset, .unset, .unset, .unset, .unset] [.null])) := by
          intro t kt
          refine pre169 t ?_
          refine XS.ifNo X157.here hx rfl (hb hby at_134) rfl ((if0 _ _).trans (feq hc168).1) ?_
          show Steps p.tables e below (T157.setTop (mkF m 137 #[.val (.int p1), .val (.int p2), .val (.int p3), .val (.int p4), .val (.int p5), .val (.int p6), .val x6, .val x7, .val x8, .val x9, .val (.ref b73), .val x66, .val x85, .val x105, .val (.ref (own_st p6 wOPEN wCLOSED wCANCELLED)), .val (.ref b147), .val (.ref b158), .unset, .unset, .unset, .unset, .unset, .unset, .unset, .unset, .unset, .unset, .unset, .unset, .unset] [])) _
          refine XS.aconstNull X157.here hx rfl (hb hby at_137) ?_
          show Steps p.tables e below (T157.setTop (mkF m 138 #[.val (.int p1), .val (.int p2), .val (.int p3), .val (.int p4), .val (.int p5), .val (.int p6), .val x6, .val x7, .val x8, .val x9, .val (.ref b73), .val x66, .val x85, .val x105, .val (.ref (own_st p6 wOPEN wCLOSED wCANCELLED)), .val (.ref b147), .val (.ref b158), .unset, .unset, .unset, .unset, .unset, .unset, .unset, .unset, .unset, .unset, .unset, .unset, .unset] [.null])) _
          refine XS.goto X157.here hx rfl (pc0 := 138) (pc' := 147) rfl (hb hby at_138) (by decide) (by decide) ?_
          show Steps p.tables e below (T157.setTop (mkF m 147 #[.val (.int p1), .val (.int p2), .val (.int p3), .val (.int p4), .val (.int p5), .val (.int p6), .val x6, .val x7, .val x8, .val x9, .val (.ref b73), .val x66, .val x85, .val x105, .val (.ref (own_st p6 wOPEN wCLOSED wCANCELLED)), .val (.ref b147), .val (.ref b158), .unset, .unset, .unset, .unset, .unset, .unset, .unset, .unset, .unset, .unset, .unset, .unset, .unset] [.null])) _
          exact kt
        exact ⟨.null, T157, _, _, (Stand.mono X157 (by decide) (by decide)), N157, rfl, kjj167, rfl, own_OR.null, pre184⟩
    have zs187 : n0 ≤ hj167.size := Nat.le_trans zs163 Kj167.1
    have kc188 : Keep hj120 hj167 [] := kc164.trans Kj167 all0
    have pre189 : own_Go p e below S0 (Tj167.setTop (mkF m 152 #[.val (.int p1), .val (.int p2), .val (.int p3), .val (.int p4), .val (.int p5), .val (.int p6), .val x6, .val x7, .val x8, .val x9, .val (.ref b73), .val x66, .val x85, .val x105, .val (.ref (own_st p6 wOPEN wCLOSED wCANCELLED)), .val (.ref b147), .val (.ref b158), .val x147, .unset, .unset, .unset, .unset, .unset, .unset, .unset, .unset, .unset, .unset, .unset, .unset] [(.int (24 : Int32)), (.int p3)])) := by
      intro t kt
      refine prej167 t ?_
      refine XS.astore Xj167.here hx rfl (hb hby at_147) rfl pj185 (l' := #[.val (.int p1), .val (.int p2), .val (.int p3), .val (.int p4), .val (.int p5), .val (.int p6), .val x6, .val x7, .val x8, .val x9, .val (.ref b73), .val x66, .val x85, .val x105, .val (.ref (own_st p6 wOPEN wCLOSED wCANCELLED)), .val (.ref b147), .val (.ref b158), .val x147, .unset, .unset, .unset, .unset, .unset, .unset, .unset, .unset, .unset, .unset, .unset, .unset]) (storeLocals_cat1 (x := .unset) rfl (own_cat pj185) trivial) ?_
      show Steps p.tables e below (Tj167.setTop (mkF m 149 #[.val (.int p1), .val (.int p2), .val (.int p3), .val (.int p4), .val (.int p5), .val (.int p6), .val x6, .val x7, .val x8, .val x9, .val (.ref b73), .val x66, .val x85, .val x105, .val (.ref (own_st p6 wOPEN wCLOSED wCANCELLED)), .val (.ref b147), .val (.ref b158), .val x147, .unset, .unset, .unset, .unset, .unset, .unset, .unset, .unset, .unset, .unset, .unset, .unset] [])) _
      refine XS.iloadN Xj167.here hx rfl (hb hby at_149) rfl ?_
      show Steps p.tables e below (Tj167.setTop (mkF m 150 #[.val (.int p1), .val (.int p2), .val (.int p3), .val (.int p4), .val (.int p5), .val (.int p6), .val x6, .val x7, .val x8, .val x9, .val (.ref b73), .val x66, .val x85, .val x105, .val (.ref (own_st p6 wOPEN wCLOSED wCANCELLED)), .val (.ref b147), .val (.ref b158), .val x147, .unset, .unset, .unset, .unset, .unset, .unset, .unset, .unset, .unset, .unset, .unset, .unset] [(.int p3)])) _
      refine XS.bipush Xj167.here hx rfl (hb hby at_150) ?_
      show Steps p.tables e below (Tj167.setTop (mkF m 152 #[.val (.int p1), .val (.int p2), .val (.int p3), .val (.int p4), .val (.int p5), .val (.int p6), .val x6, .val x7, .val x8, .val x9, .val (.ref b73), .val x66, .val x85, .val x105, .val (.ref (own_st p6 wOPEN wCLOSED wCANCELLED)), .val (.ref b147), .val (.ref b158), .val x147, .unset, .unset, .unset, .unset, .unset, .unset, .unset, .unset, .unset, .unset, .unset, .unset] [(.int (24 : Int32)), (.int p3)])) _
      exact kt
    have f190 : Old Z n0 hj167 := ((f156.keep K157 all0).keep Kj167 all0)
    obtain ⟨_, _, ⟨T191, L191, k191, n191⟩, -, X191, ⟨Lc191, hQ191, l191, y191, z191⟩, st191⟩ := Jvm.LawKit.callS Xj167 hx (y := (⟨"com/example/refertario/refertario/store/EpisodeAdmittedAsPinLaw", "ch", "(II)Ljava/lang/String;"⟩ : MethodName)) hown (mvT hZ (hw _ (own_w 0 rfl))) (mvT hZ (hw _ (own_w 1 rfl))) (mvT hZ (hw _ (own_w 2 rfl))) (mvT hZ (hw _ (own_w 3 rfl))) (by decide) (backOf (W := 0) (rm1 l Z a0 hw [] p3 (24 : Int32) wC hj167 n0 zs187 f190 qC) hZ (hw _ (own_w 3 rfl)) (hw _ (own_w 2 rfl)) (by decide) (by decide)) (g := (mkF m 152 #[.val (.int p1), .val (.int p2), .val (.int p3), .val (.int p4), .val (.int p5), .val (.int p6), .val x6, .val x7, .val x8, .val x9, .val (.ref b73), .val x66, .val x85, .val x105, .val (.ref (own_st p6 wOPEN wCLOSED wCANCELLED)), .val (.ref b147), .val (.ref b158), .val x147, .unset, .unset, .unset, .unset, .unset, .unset, .unset, .unset, .unset, .unset, .unset, .unset] [(.int (24 : Int32)), (.int p3)])) rfl (by rw [hml]; rfl) (argsL := [(.int p3), (.int (24 : Int32))]) (rest := []) (lenOf pd_9 rfl) rfl (by show 2 * 0 + _ ≤ _; exact Nat.le_of_eq rfl) (hb hby at_152) (fun _ _ => ⟨rfl, ej167, (by decide : 22 + 2 ≤ _), (by decide : 55 + 5 ≤ _)⟩)
    dsimp only [Pt.U, Pt.locs, Pt.cells, Pt.slots] at X191 l191 y191 z191 st191 hQ191
    subst l191 y191 z191
    obtain ⟨b192, rfl, Nq191, K191, g193, g194⟩ := hQ191
    have N191 := Fr.app Nj167 Nq191
    have ge195 : n0 ≤ b192 := Nat.le_trans zs187 g193
    have sz196 : hj120.size ≤ b192 := Nat.le_trans kc188.1 g193
    have zs197 : n0 ≤ T191.heap.size := Nat.le_trans zs187 K191.1
    have kc198 : Keep hj120 T191.heap [] := kc188.trans K191 all0
    have oc199 : own_OR Z T191.heap (.ref b192) := own_OR.of g194
    have pre200 : own_Go p e below S0 (T191.setTop (mkF m 157 #[.val (.int p1), .val (.int p2), .val (.int p3), .val (.int p4), .val (.int p5), .val (.int p6), .val x6, .val x7, .val x8, .val x9, .val (.ref b73), .val x66, .val x85, .val x105, .val (.ref (own_st p6 wOPEN wCLOSED wCANCELLED)), .val (.ref b147), .val (.ref b158), .val x147, .val (.ref b192), .unset, .unset, .unset, .unset, .unset, .unset, .unset, .unset, .unset, .unset, .unset] [])) := by
      intro t kt
      refine pre189 t ?_
      refine st191 _ ?_
      show Steps p.tables e below (T191.setTop (mkF m 155 #[.val (.int p1), .val (.int p2), .val (.int p3), .val (.int p4), .val (.int p5), .val (.int p6), .val x6, .val x7, .val x8, .val x9, .val (.ref b73), .val x66, .val x85, .val x105, .val (.ref (own_st p6 wOPEN wCLOSED wCANCELLED)), .val (.ref b147), .val (.ref b158), .val x147, .unset, .unset, .unset, .unset, .unset, .unset, .unset, .unset, .unset, .unset, .unset, .unset] [(.ref b192)])) _
      refine XS.astore X191.here hx rfl (hb hby at_155) rfl rfl (l' := #[.val (.int p1), .val (.int p2), .val (.int p3), .val (.int p4), .val (.int p5), .val (.int p6), .val x6, .val x7, .val x8, .val x9, .val (.ref b73), .val x66, .val x85, .val x105, .val (.ref (own_st p6 wOPEN wCLOSED wCANCELLED)), .val (.ref b147), .val (.ref b158), .val x147, .val (.ref b192), .unset, .unset, .unset, .unset, .unset, .unset, .unset, .unset, .unset, .unset, .unset]) rfl ?_
      show Steps p.tables e below (T191.setTop (mkF m 157 #[.val (.int p1), .val (.int p2), .val (.int p3), .val (.int p4), .val (.int p5), .val (.int p6), .val x6, .val x7, .val x8, .val x9, .val (.ref b73), .val x66, .val x85, .val x105, .val (.ref (own_st p6 wOPEN wCLOSED wCANCELLED)), .val (.ref b147), .val (.ref b158), .val x147, .val (.ref b192), .unset, .unset, .unset, .unset, .unset, .unset, .unset, .unset, .unset, .unset, .unset] [])) _
      exact kt
    have f201 : own_OR Z T191.heap (.ref b147)  := (own_OR.keep (own_OR.keep (own_OR.keep oc154 K157 ) Kj167 ) K191 )
    have f202 : own_OR Z T191.heap (.ref b158)  := (own_OR.keep (own_OR.keep oc165 Kj167 ) K191 )
    have f203 : own_OR Z T191.heap x147  := (own_OR.keep qj186 K191 )
    exact ⟨(.ref b147), (.ref b158), x147, (.ref b192), T191, _, _, (Stand.mono X191 (by decide) (by decide)), N191, rfl, kc198, rfl, rfl, pj185, rfl, f201, f202, f203, oc199, pre200⟩
  have zs212 : n0 ≤ hj144.size := Nat.le_trans zs138 Kj144.1
  have pre213 : own_Go p e below S0 (Tj144.setTop (mkF m 159 #[.val (.int p1), .val (.int p2), .val (.int p3), .val (.int p4), .val (.int p5), .val (.int p6), .val x6, .val x7, .val x8, .val x9, .val (.ref b73), .val x66, .val x85, .val x105, .val (.ref (own_st p6 wOPEN wCLOSED wCANCELLED)), .val x15, .val x16, .val x17, .val x18, .unset, .unset, .unset, .unset, .unset, .unset, .unset, .unset, .unset, .unset, .unset] [(.int (0 : Int32)), (.int p4)])) := by
    intro t kt
    refine prej144 t ?_
    refine XS.iloadN Xj144.here hx rfl (hb hby at_157) rfl ?_
    show Steps p.tables e below (Tj144.setTop (mkF m 158 #[.val (.int p1), .val (.int p2), .val (.int p3), .val (.int p4), .val (.int p5), .val (.int p6), .val x6, .val x7, .val x8, .val x9, .val (.ref b73), .val x66, .val x85, .val x105, .val (.ref (own_st p6 wOPEN wCLOSED wCANCELLED)), .val x15, .val x16, .val x17, .val x18, .unset, .unset, .unset, .unset, .unset, .unset, .unset, .unset, .unset, .unset, .unset] [(.int p4)])) _
    refine XS.iconst Xj144.here hx rfl (hb hby at_158) ?_
    show Steps p.tables e below (Tj144.setTop (mkF m 159 #[.val (.int p1), .val (.int p2), .val (.int p3), .val (.int p4), .val (.int p5), .val (.int p6), .val x6, .val x7, .val x8, .val x9, .val (.ref b73), .val x66, .val x85, .val x105, .val (.ref (own_st p6 wOPEN wCLOSED wCANCELLED)), .val x15, .val x16, .val x17, .val x18, .unset, .unset, .unset, .unset, .unset, .unset, .unset, .unset, .unset, .unset, .unset] [(.int (0 : Int32)), (.int p4)])) _
    exact kt
  have f214 : Old Z n0 hj144 := (f141.keep Kj144 all0)
  obtain ⟨_, _, ⟨T215, L215, k215, n215⟩, -, X215, ⟨Lc215, hQ215, l215, y215, z215⟩, st215⟩ := Jvm.LawKit.callS Xj144 hx (y := (⟨"com/example/refertario/refertario/store/EpisodeAdmittedAsPinLaw", "ch", "(II)Ljava/lang/String;"⟩ : MethodName)) hown (mvT hZ (hw _ (own_w 0 rfl))) (mvT hZ (hw _ (own_w 1 rfl))) (mvT hZ (hw _ (own_w 2 rfl))) (mvT hZ (hw _ (own_w 3 rfl))) (by decide) (backOf (W := 0) (rm1 l Z a0 hw [] p4 (0 : Int32) wC hj144 n0 zs212 f214 qC) hZ (hw _ (own_w 3 rfl)) (hw _ (own_w 2 rfl)) (by decide) (by decide)) (g := (mkF m 159 #[.val (.int p1), .val (.int p2), .val (.int p3), .val (.int p4), .val (.int p5), .val (.int p6), .val x6, .val x7, .val x8, .val x9, .val (.ref b73), .val x66, .val x85, .val x105, .val (.ref (own_st p6 wOPEN wCLOSED wCANCELLED)), .val x15, .val x16, .val x17, .val x18, .unset, .unset, .unset, .unset, .unset, .unset, .unset, .unset, .unset, .unset, .unset] [(.int (0 : Int32)), (.int p4)])) rfl (by rw [hml]; rfl) (argsL := [(.int p4), (.int (0 : Int32))]) (rest := []) (lenOf pd_9 rfl) rfl (by show 2 * 0 + _ ≤ _; exact Nat.le_of_eq rfl) (hb hby at_159) (fun _ _ => ⟨rfl, ej144, (by decide : 24 + 2 ≤ _), (by decide : 60 + 5 ≤ _)⟩)
  dsimp only [Pt.U, Pt.locs, Pt.cells, Pt.slots] at X215 l215 y215 z215 st215 hQ215
  subst l215 y215 z215
  obtain ⟨b216, rfl, Nq215, K215, g217, g218⟩ := hQ215
  have N215 := Fr.app Nj144 Nq215
  have ge219 : n0 ≤ b216 := Nat.le_trans zs212 g217
  have zs220 : n0 ≤ T215.heap.size := Nat.le_trans zs212 K215.1
  have oc221 : own_OR Z T215.heap (.ref b216) := own_OR.of g218
  have pre222 : own_Go p e below S0 (T215.setTop (mkF m 164 #[.val (.int p1), .val (.int p2), .val (.int p3), .val (.int p4), .val (.int p5), .val (.int p6), .val x6, .val x7, .val x8, .val x9, .val (.ref b73), .val x66, .val x85, .val x105, .val (.ref (own_st p6 wOPEN wCLOSED wCANCELLED)), .val x15, .val x16, .val x17, .val x18, .val (.ref b216), .unset, .unset, .unset, .unset, .unset, .unset, .unset, .unset, .unset, .unset] [])) := by
    intro t kt
    refine pre213 t ?_
    refine st215 _ ?_
    show Steps p.tables e below (T215.setTop (mkF m 162 #[.val (.int p1), .val (.int p2), .val (.int p3), .val (.int p4), .val (.int p5), .val (.int p6), .val x6, .val x7, .val x8, .val x9, .val (.ref b73), .val x66, .val x85, .val x105, .val (.ref (own_st p6 wOPEN wCLOSED wCANCELLED)), .val x15, .val x16, .val x17, .val x18, .unset, .unset, .unset, .unset, .unset, .unset, .unset, .unset, .unset, .unset, .unset] [(.ref b216)])) _
    refine XS.astore X215.here hx rfl (hb hby at_162) rfl rfl (l' := #[.val (.int p1), .val (.int p2), .val (.int p3), .val (.int p4), .val (.int p5), .val (.int p6), .val x6, .val x7, .val x8, .val x9, .val (.ref b73), .val x66, .val x85, .val x105, .val (.ref (own_st p6 wOPEN wCLOSED wCANCELLED)), .val x15, .val x16, .val x17, .val x18, .val (.ref b216), .unset, .unset, .unset, .unset, .unset, .unset, .unset, .unset, .unset, .unset]) rfl ?_
    show Steps p.tables e below (T215.setTop (mkF m 164 #[.val (.int p1), .val (.int p2), .val (.int p3), .val (.int p4), .val (.int p5), .val (.int p6), .val x6, .val x7, .val x8, .val x9, .val (.ref b73), .val x66, .val x85, .val x105, .val (.ref (own_st p6 wOPEN wCLOSED wCANCELLED)), .val x15, .val x16, .val x17, .val x18, .val (.ref b216), .unset, .unset, .unset, .unset, .unset, .unset, .unset, .unset, .unset, .unset] [])) _
    exact kt
  obtain ⟨x182, Tj223, lj223, hj223, Xj223, Nj223, ej223, Kj223, pj239, qj240, prej223⟩ : ∃ (x182 : Value) (Tj223 : State) (lj223 : List Loc) (hj223 : Heap), Stand p l e room_1 s m #[(.int p1), (.int p2), (.int p3), (.int p4), (.int p5), (.int p6)] below meth c Tj223 lj223 28 70 ∧ Fr n0 lj223 ∧ Tj223.heap = hj223 ∧ Keep T215.heap hj223 [] ∧ x182.isRef = true ∧ own_OR Z hj223 x182  ∧ own_Go p e below S0 (Tj223.setTop (mkF m 182 #[.val (.int p1), .val (.int p2), .val (.int p3), .val (.int p4), .val (.int p5), .val (.int p6), .val x6, .val x7, .val x8, .val x9, .val (.ref b73), .val x66, .val x85, .val x105, .val (.ref (own_st p6 wOPEN wCLOSED wCANCELLED)), .val x15, .val x16, .val x17, .val x18, .val (.ref b216), .unset, .unset, .unset, .unset, .unset, .unset, .unset, .unset, .unset, .unset] [x182])) := by
    have kjj223 : Keep T215.heap T215.heap [] := Keep.refl _ _
    have pre225 : own_Go p e below S0 (T215.setTop (mkF m 169 #[.val (.int p1), .val (.int p2), .val (.int p3), .val (.int p4), .val (.int p5), .val (.int p6), .val x6, .val x7, .val x8, .val x9, .val (.ref b73), .val x66, .val x85, .val x105, .val (.ref (own_st p6 wOPEN wCLOSED wCANCELLED)), .val x15, .val x16, .val x17, .val x18, .val (.ref b216), .unset, .unset, .unset, .unset, .unset, .unset, .unset, .unset, .unset, .unset] [(.int (p5 &&& (32 : Int32)))])) := by
      intro t kt
      refine pre222 t ?_
      refine XS.iload X215.here hx rfl (hb hby at_164) rfl ?_
      show Steps p.tables e below (T215.setTop (mkF m 166 #[.val (.int p1), .val (.int p2), .val (.int p3), .val (.int p4), .val (.int p5), .val (.int p6), .val x6, .val x7, .val x8, .val x9, .val (.ref b73), .val x66, .val x85, .val x105, .val (.ref (own_st p6 wOPEN wCLOSED wCANCELLED)), .val x15, .val x16, .val x17, .val x18, .val (.ref b216), .unset, .unset, .unset, .unset, .unset, .unset, .unset, .unset, .unset, .unset] [(.int p5)])) _
      refine XS.bipush X215.here hx rfl (hb hby at_166) ?_
      show Steps p.tables e below (T215.setTop (mkF m 168 #[.val (.int p1), .val (.int p2), .val (.int p3), .val (.int p4), .val (.int p5), .val (.int p6), .val x6, .val x7, .val x8, .val x9, .val (.ref b73), .val x66, .val x85, .val x105, .val (.ref (own_st p6 wOPEN wCLOSED wCANCELLED)), .val x15, .val x16, .val x17, .val x18, .val (.ref b216), .unset, .unset, .unset, .unset, .unset, .unset, .unset, .unset, .unset, .unset] [(.int (32 : Int32)), (.int p5)])) _
      refine XS.iand X215.here hx rfl (hb hby at_168) rfl ?_
      show Steps p.tables e below (T215.setTop (mkF m 169 #[.val (.int p1), .val (.int p2), .val (.int p3), .val (.int p4), .val (.int p5), .val (.int p6), .val x6, .val x7, .val x8, .val x9, .val (.ref b73), .val x66, .val x85, .val x105, .val (.ref (own_st p6 wOPEN wCLOSED wCANCELLED)), .val x15, .val x16, .val x17, .val x18, .val (.ref b216), .unset, .unset, .unset, .unset, .unset, .unset, .unset, .unset, .unset, .unset] [(.int (p5 &&& (32 : Int32)))])) _
      exact kt
    by_cases hc224 : (p5 &&& (32 : Int32)) = (0 : Int32)
    · have pre226 : own_Go p e below S0 (T215.setTop (mkF m 179 #[.val (.int p1), .val (.int p2), .val (.int p3), .val (.int p4), .val (.int p5), .val (.int p6), .val x6, .val x7, .val x8, .val x9, .val (.ref b73), .val x66, .val x85, .val x105, .val (.ref (own_st p6 wOPEN wCLOSED wCANCELLED)), .val x15, .val x16, .val x17, .val x18, .val (.ref b216), .unset, .unset, .unset, .unset, .unset, .unset, .unset, .unset, .unset, .unset] [(.int (8 : Int32)), (.int p4)])) := by
        intro t kt
        refine pre225 t ?_
        refine XS.ifYes X215.here hx rfl (pc0 := 169) (pc' := 176) rfl (hb hby at_169) rfl ((if0 _ _).trans (teq hc224).1) (by decide) (by decide) ?_
        show Steps p.tables e below (T215.setTop (mkF m 176 #[.val (.int p1), .val (.int p2), .val (.int p3), .val (.int p4), .val (.int p5), .val (.int p6), .val x6, .val x7, .val x8, .val x9, .val (.ref b73), .val x66, .val x85, .val x105, .val (.ref (own_st p6 wOPEN wCLOSED wCANCELLED)), .val x15, .val x16, .val x17, .val x18, .val (.ref b216), .unset, .unset, .unset, .unset, .unset, .unset, .unset, .unset, .unset, .unset] [])) _
        refine XS.iloadN X215.here hx rfl (hb hby at_176) rfl ?_
        show Steps p.tables e below (T215.setTop (mkF m 177 #[.val (.int p1), .val (.int p2), .val (.int p3), .val (.int p4), .val (.int p5), .val (.int p6), .val x6, .val x7, .val x8, .val x9, .val (.ref b73), .val x66, .val x85, .val x105, .val (.ref (own_st p6 wOPEN wCLOSED wCANCELLED)), .val x15, .val x16, .val x17, .val x18, .val (.ref b216), .unset, .unset, .unset, .unset, .unset, .unset, .unset, .unset, .unset, .unset] [(.int p4)])) _
        refine XS.bipush X215.here hx rfl (hb hby at_177) ?_
        show Steps p.tables e below (T215.setTop (mkF m 179 #[.val (.int p1), .val (.int p2), .val (.int p3), .val (.int p4), .val (.int p5), .val (.int p6), .val x6, .val x7, .val x8, .val x9, .val (.ref b73), .val x66, .val x85, .val x105, .val (.ref (own_st p6 wOPEN wCLOSED wCANCELLED)), .val x15, .val x16, .val x17, .val x18, .val (.ref b216), .unset, .unset, .unset, .unset, .unset, .unset, .unset, .unset, .unset, .unset] [(.int (8 : Int32)), (.int p4)])) _
        exact kt
      have f227 : Old Z n0 T215.heap := (f214.keep K215 all0)
      obtain ⟨_, _, ⟨T228, L228, k228, n228⟩, -, X228, ⟨Lc228, hQ228, l228, y228, z228⟩, st228⟩ := Jvm.LawKit.callS X215 hx (y := (⟨"com/example/refertario/refertario/store/EpisodeAdmittedAsPinLaw", "ch", "(II)Ljava/lang/String;"⟩ : MethodName)) hown (mvT hZ (hw _ (own_w 0 rfl))) (mvT hZ (hw _ (own_w 1 rfl))) (mvT hZ (hw _ (own_w 2 rfl))) (mvT hZ (hw _ (own_w 3 rfl))) (by decide) (backOf (W := 0) (rm1 l Z a0 hw [] p4 (8 : Int32) wC T215.heap n0 zs220 f227 qC) hZ (hw _ (own_w 3 rfl)) (hw _ (own_w 2 rfl)) (by decide) (by decide)) (g := (mkF m 179 #[.val (.int p1), .val (.int p2), .val (.int p3), .val (.int p4), .val (.int p5), .val (.int p6), .val x6, .val x7, .val x8, .val x9, .val (.ref b73), .val x66, .val x85, .val x105, .val (.ref (own_st p6 wOPEN wCLOSED wCANCELLED)), .val x15, .val x16, .val x17, .val x18, .val (.ref b216), .unset, .unset, .unset, .unset, .unset, .unset, .unset, .unset, .unset, .unset] [(.int (8 : Int32)), (.int p4)])) rfl (by rw [hml]; rfl) (argsL := [(.int p4), (.int (8 : Int32))]) (rest := []) (lenOf pd_9 rfl) rfl (by show 2 * 0 + _ ≤ _; exact Nat.le_of_eq rfl) (hb hby at_179) (fun _ _ => ⟨rfl, rfl, (by decide : 26 + 2 ≤ _), (by decide : 65 + 5 ≤ _)⟩)
      dsimp only [Pt.U, Pt.locs, Pt.cells, Pt.slots] at X228 l228 y228 z228 st228 hQ228
      subst l228 y228 z228
      obtain ⟨b229, rfl, Nq228, K228, g230, g231⟩ := hQ228
      have N228 := Fr.app N215 Nq228
      have ge232 : n0 ≤ b229 := Nat.le_trans zs220 g230
      have sz233 : T215.heap.size ≤ b229 := Nat.le_trans kjj223.1 g230
      have zs234 : n0 ≤ T228.heap.size := Nat.le_trans zs220 K228.1
      have kc235 : Keep T215.heap T228.heap [] := kjj223.trans K228 all0
      have oc236 : own_OR Z T228.heap (.ref b229) := own_OR.of g231
      have pre237 : own_Go p e below S0 (T228.setTop (mkF m 182 #[.val (.int p1), .val (.int p2), .val (.int p3), .val (.int p4), .val (.int p5), .val (.int p6), .val x6, .val x7, .val x8, .val x9, .val (.ref b73), .val x66, .val x85, .val x105, .val (.ref (own_st p6 wOPEN wCLOSED wCANCELLED)), .val x15, .val x16, .val x17, .val x18, .val (.ref b216), .unset, .unset, .unset, .unset, .unset, .unset, .unset, .unset, .unset, .unset] [(.ref b229)])) := by
        intro t kt
        refine pre226 t ?_
        refine st228 _ ?_
        show Steps p.tables e below (T228.setTop (mkF m 182 #[.val (.int p1), .val (.int p2), .val (.int p3), .val (.int p4), .val (.int p5), .val (.int p6), .val x6, .val x7, .val x8, .val x9, .val (.ref b73), .val x66, .val x85, .val x105, .val (.ref (own_st p6 wOPEN wCLOSED wCANCELLED)), .val x15, .val x16, .val x17, .val x18, .val (.ref b216), .unset, .unset, .unset, .unset, .unset, .unset, .unset, .unset, .unset, .unset] [(.ref b229)])) _
        exact kt
      exact ⟨(.ref b229), T228, _, _, (Stand.mono X228 (by decide) (by decide)), N228, rfl, kc235, rfl, oc236, pre237⟩
    · have pre238 : own_Go p e below S0 (T215.setTop (mkF m 182 #[.val (.int p1), .val (.int p2), .val (.int p3), .val (.int p4), .val (.int p5), .val (.int p6), .val x6, .val x7, .val x8, .val x9, .val (.ref b73), .val x66, .val x85, .val x105, .val (.ref (own_st p6 wOPEN wCLOSED wCANCELLED)), .val x15, .val x16, .val x17, .val x18, .val (.ref b216), .unset, .unset, .unset, .unset, .unset, .unset, .unset, .unset, .unset, .unset] [.null])) := by
        intro t kt
        refine pre225 t ?_
        refine XS.ifNo X215.here hx rfl (hb hby at_169) rfl ((if0 _ _).trans (feq hc224).1) ?_
        show Steps p.tables e below (T215.setTop (mkF m 172 #[.val (.int p1), .val (.int p2), .val (.int p3), .val (.int p4), .val (.int p5), .val (.int p6), .val x6, .val x7, .val x8, .val x9, .val (.ref b73), .val x66, .val x85, .val x105, .val (.ref (own_st p6 wOPEN wCLOSED wCANCELLED)), .val x15, .val x16, .val x17, .val x18, .val (.ref b216), .unset, .unset, .unset, .unset, .unset, .unset, .unset, .unset, .unset, .unset] [])) _
        refine XS.aconstNull X215.here hx rfl (hb hby at_172) ?_
        show Steps p.tables e below (T215.setTop (mkF m 173 #[.val (.int p1), .val (.int p2), .val (.int p3), .val (.int p4), .val (.int p5), .val (.int p6), .val x6, .val x7, .val x8, .val x9, .val (.ref b73), .val x66, .val x85, .val x105, .val (.ref (own_st p6 wOPEN wCLOSED wCANCELLED)), .val x15, .val x16, .val x17, .val x18, .val (.ref b216), .unset, .unset, .unset, .unset, .unset, .unset, .unset, .unset, .unset, .unset] [.null])) _
        refine XS.goto X215.here hx rfl (pc0 := 173) (pc' := 182) rfl (hb hby at_173) (by decide) (by decide) ?_
        show Steps p.tables e below (T215.setTop (mkF m 182 #[.val (.int p1), .val (.int p2), .val (.int p3), .val (.int p4), .val (.int p5), .val (.int p6), .val x6, .val x7, .val x8, .val x9, .val (.ref b73), .val x66, .val x85, .val x105, .val (.ref (own_st p6 wOPEN wCLOSED wCANCELLED)), .val x15, .val x16, .val x17, .val x18, .val (.ref b216), .unset, .unset, .unset, .unset, .unset, .unset, .unset, .unset, .unset, .unset] [.null])) _
        exact kt
      exact ⟨.null, T215, _, _, (Stand.mono X215 (by decide) (by decide)), N215, rfl, kjj223, rfl, own_OR.null, pre238⟩
  have zs241 : n0 ≤ hj223.size := Nat.le_trans zs220 Kj223.1
  have pre242 : own_Go p e below S0 (Tj223.setTop (mkF m 184 #[.val (.int p1), .val (.int p2), .val (.int p3), .val (.int p4), .val (.int p5), .val (.int p6), .val x6, .val x7, .val x8, .val x9, .val (.ref b73), .val x66, .val x85, .val x105, .val (.ref (own_st p6 wOPEN wCLOSED wCANCELLED)), .val x15, .val x16, .val x17, .val x18, .val (.ref b216), .val x182, .unset, .unset, .unset, .unset, .unset, .unset, .unset, .unset, .unset] [])) := by
    intro t kt
    refine prej223 t ?_
    refine XS.astore Xj223.here hx rfl (hb hby at_182) rfl pj239 (l' := #[.val (.int p1), .val (.int p2), .val (.int p3), .val (.int p4), .val (.int p5), .val (.int p6), .val x6, .val x7, .val x8, .val x9, .val (.ref b73), .val x66, .val x85, .val x105, .val (.ref (own_st p6 wOPEN wCLOSED wCANCELLED)), .val x15, .val x16, .val x17, .val x18, .val (.ref b216), .val x182, .unset, .unset, .unset, .unset, .unset, .unset, .unset, .unset, .unset]) (storeLocals_cat1 (x := .unset) rfl (own_cat pj239) trivial) ?_
    show Steps p.tables e below (Tj223.setTop (mkF m 184 #[.val (.int p1), .val (.int p2), .val (.int p3), .val (.int p4), .val (.int p5), .val (.int p6), .val x6, .val x7, .val x8, .val x9, .val (.ref b73), .val x66, .val x85, .val x105, .val (.ref (own_st p6 wOPEN wCLOSED wCANCELLED)), .val x15, .val x16, .val x17, .val x18, .val (.ref b216), .val x182, .unset, .unset, .unset, .unset, .unset, .unset, .unset, .unset, .unset] [])) _
    exact kt
  obtain ⟨x202, Tj243, lj243, hj243, Xj243, Nj243, ej243, Kj243, pj259, qj260, prej243⟩ : ∃ (x202 : Value) (Tj243 : State) (lj243 : List Loc) (hj243 : Heap), Stand p l e room_1 s m #[(.int p1), (.int p2), (.int p3), (.int p4), (.int p5), (.int p6)] below meth c Tj243 lj243 30 75 ∧ Fr n0 lj243 ∧ Tj243.heap = hj243 ∧ Keep hj223 hj243 [] ∧ x202.isRef = true ∧ own_OR Z hj243 x202  ∧ own_Go p e below S0 (Tj243.setTop (mkF m 202 #[.val (.int p1), .val (.int p2), .val (.int p3), .val (.int p4), .val (.int p5), .val (.int p6), .val x6, .val x7, .val x8, .val x9, .val (.ref b73), .val x66, .val x85, .val x105, .val (.ref (own_st p6 wOPEN wCLOSED wCANCELLED)), .val x15, .val x16, .val x17, .val x18, .val (.ref b216), .val x182, .unset, .unset, .unset, .unset, .unset, .unset, .unset, .unset, .unset] [x202])) := by
    have kjj243 : Keep hj223 hj223 [] := Keep.refl _ _
    have pre245 : own_Go p e below S0 (Tj223.setTop (mkF m 189 #[.val (.int p1), .val (.int p2), .val (.int p3), .val (.int p4), .val (.int p5), .val (.int p6), .val x6, .val x7, .val x8, .val x9, .val (.ref b73), .val x66, .val x85, .val x105, .val (.ref (own_st p6 wOPEN wCLOSED wCANCELLED)), .val x15, .val x16, .val x17, .val x18, .val (.ref b216), .val x182, .unset, .unset, .unset, .unset, .unset, .unset, .unset, .unset, .unset] [(.int (p5 &&& (64 : Int32)))])) := by
      intro t kt
      refine pre242 t ?_
      refine XS.iload Xj223.here hx rfl (hb hby at_184) rfl ?_
      show Steps p.tables e below (Tj223.setTop (mkF m 186 #[.val (.int p1), .val (.int p2), .val (.int p3), .val (.int p4), .val (.int p5), .val (.int p6), .val x6, .val x7, .val x8, .val x9, .val (.ref b73), .val x66, .val x85, .val x105, .val (.ref (own_st p6 wOPEN wCLOSED wCANCELLED)), .val x15, .val x16, .val x17, .val x18, .val (.ref b216), .val x182, .unset, .unset, .unset, .unset, .unset, .unset, .unset, .unset, .unset] [(.int p5)])) _
      refine XS.bipush Xj223.here hx rfl (hb hby at_186) ?_
      show Steps p.tables e below (Tj223.setTop (mkF m 188 #[.val (.int p1), .val (.int p2), .val (.int p3), .val (.int p4), .val (.int p5), .val (.int p6), .val x6, .val x7, .val x8, .val x9, .val (.ref b73), .val x66, .val x85, .val x105, .val (.ref (own_st p6 wOPEN wCLOSED wCANCELLED)), .val x15, .val x16, .val x17, .val x18, .val (.ref b216), .val x182, .unset, .unset, .unset, .unset, .unset, .unset, .unset, .unset, .unset] [(.int (64 : Int32)), (.int p5)])) _
      refine XS.iand Xj223.here hx rfl (hb hby at_188) rfl ?_
      show Steps p.tables e below (Tj223.setTop (mkF m 189 #[.val (.int p1), .val (.int p2), .val (.int p3), .val (.int p4), .val (.int p5), .val (.int p6), .val x6, .val x7, .val x8, .val x9, .val (.ref b73), .val x66, .val x85, .val x105, .val (.ref (own_st p6 wOPEN wCLOSED wCANCELLED)), .val x15, .val x16, .val x17, .val x18, .val (.ref b216), .val x182, .unset, .unset, .unset, .unset, .unset, .unset, .unset, .unset, .unset] [(.int (p5 &&& (64 : Int32)))])) _
      exact kt
    by_cases hc244 : (p5 &&& (64 : Int32)) = (0 : Int32)
    · have pre246 : own_Go p e below S0 (Tj223.setTop (mkF m 199 #[.val (.int p1), .val (.int p2), .val (.int p3), .val (.int p4), .val (.int p5), .val (.int p6), .val x6, .val x7, .val x8, .val x9, .val (.ref b73), .val x66, .val x85, .val x105, .val (.ref (own_st p6 wOPEN wCLOSED wCANCELLED)), .val x15, .val x16, .val x17, .val x18, .val (.ref b216), .val x182, .unset, .unset, .unset, .unset, .unset, .unset, .unset, .unset, .unset] [(.int (16 : Int32)), (.int p4)])) := by
        intro t kt
        refine pre245 t ?_
        refine XS.ifYes Xj223.here hx rfl (pc0 := 189) (pc' := 196) rfl (hb hby at_189) rfl ((if0 _ _).trans (teq hc244).1) (by decide) (by decide) ?_
        show Steps p.tables e below (Tj223.setTop (mkF m 196 #[.val (.int p1), .val (.int p2), .val (.int p3), .val (.int p4), .val (.int p5), .val (.int p6), .val x6, .val x7, .val x8, .val x9, .val (.ref b73), .val x66, .val x85, .val x105, .val (.ref (own_st p6 wOPEN wCLOSED wCANCELLED)), .val x15, .val x16, .val x17, .val x18, .val (.ref b216), .val x182, .unset, .unset, .unset, .unset, .unset, .unset, .unset, .unset, .unset] [])) _
        refine XS.iloadN Xj223.here hx rfl (hb hby at_196) rfl ?_
        show Steps p.tables e below (Tj223.setTop (mkF m 197 #[.val (.int p1), .val (.int p2), .val (.int p3), .val (.int p4), .val (.int p5), .val (.int p6), .val x6, .val x7, .val x8, .val x9, .val (.ref b73), .val x66, .val x85, .val x105, .val (.ref (own_st p6 wOPEN wCLOSED wCANCELLED)), .val x15, .val x16, .val x17, .val x18, .val (.ref b216), .val x182, .unset, .unset, .unset, .unset, .unset, .unset, .unset, .unset, .unset] [(.int p4)])) _
        refine XS.bipush Xj223.here hx rfl (hb hby at_197) ?_
        show Steps p.tables e below (Tj223.setTop (mkF m 199 #[.val (.int p1), .val (.int p2), .val (.int p3), .val (.int p4), .val (.int p5), .val (.int p6), .val x6, .val x7, .val x8, .val x9, .val (.ref b73), .val x66, .val x85, .val x105, .val (.ref (own_st p6 wOPEN wCLOSED wCANCELLED)), .val x15, .val x16, .val x17, .val x18, .val (.ref b216), .val x182, .unset, .unset, .unset, .unset, .unset, .unset, .unset, .unset, .unset] [(.int (16 : Int32)), (.int p4)])) _
        exact kt
      have f247 : Old Z n0 hj223 := ((f214.keep K215 all0).keep Kj223 all0)
      obtain ⟨_, _, ⟨T248, L248, k248, n248⟩, -, X248, ⟨Lc248, hQ248, l248, y248, z248⟩, st248⟩ := Jvm.LawKit.callS Xj223 hx (y := (⟨"com/example/refertario/refertario/store/EpisodeAdmittedAsPinLaw", "ch", "(II)Ljava/lang/String;"⟩ : MethodName)) hown (mvT hZ (hw _ (own_w 0 rfl))) (mvT hZ (hw _ (own_w 1 rfl))) (mvT hZ (hw _ (own_w 2 rfl))) (mvT hZ (hw _ (own_w 3 rfl))) (by decide) (backOf (W := 0) (rm1 l Z a0 hw [] p4 (16 : Int32) wC hj223 n0 zs241 f247 qC) hZ (hw _ (own_w 3 rfl)) (hw _ (own_w 2 rfl)) (by decide) (by decide)) (g := (mkF m 199 #[.val (.int p1), .val (.int p2), .val (.int p3), .val (.int p4), .val (.int p5), .val (.int p6), .val x6, .val x7, .val x8, .val x9, .val (.ref b73), .val x66, .val x85, .val x105, .val (.ref (own_st p6 wOPEN wCLOSED wCANCELLED)), .val x15, .val x16, .val x17, .val x18, .val (.ref b216), .val x182, .unset, .unset, .unset, .unset, .unset, .unset, .unset, .unset, .unset] [(.int (16 : Int32)), (.int p4)])) rfl (by rw [hml]; rfl) (argsL := [(.int p4), (.int (16 : Int32))]) (rest := []) (lenOf pd_9 rfl) rfl (by show 2 * 0 + _ ≤ _; exact Nat.le_of_eq rfl) (hb hby at_199) (fun _ _ => ⟨rfl, ej223, (by decide : 28 + 2 ≤ _), (by decide : 70 + 5 ≤ _)⟩)
      dsimp only [Pt.U, Pt.locs, Pt.cells, Pt.slots] at X248 l248 y248 z248 st248 hQ248
      subst l248 y248 z248
      obtain ⟨b249, rfl, Nq248, K248, g250, g251⟩ := hQ248
      have N248 := Fr.app Nj223 Nq248
      have ge252 : n0 ≤ b249 := Nat.le_trans zs241 g250
      have sz253 : hj223.size ≤ b249 := Nat.le_trans kjj243.1 g250
      have zs254 : n0 ≤ T248.heap.size := Nat.le_trans zs241 K248.1
      have kc255 : Keep hj223 T248.heap [] := kjj243.trans K248 all0
      have oc256 : own_OR Z T248.heap (.ref b249) := own_OR.of g251
      have pre257 : own_Go p e below S0 (T248.setTop (mkF m 202 #[.val (.int p1), .val (.int p2), .val (.int p3), .val (.int p4), .val (.int p5), .val (.int p6), .val x6, .val x7, .val x8, .val x9, .val (.ref b73), .val x66, .val x85, .val x105, .val (.ref (own_st p6 wOPEN wCLOSED wCANCELLED)), .val x15, .val x16, .val x17, .val x18, .val (.ref b216), .val x182, .unset, .unset, .unset, .unset, .unset, .unset, .unset, .unset, .unset] [(.ref b249)])) := by
        intro t kt
        refine pre246 t ?_
        refine st248 _ ?_
        show Steps p.tables e below (T248.setTop (mkF m 202 #[.val (.int p1), .val (.int p2), .val (.int p3), .val (.int p4), .val (.int p5), .val (.int p6), .val x6, .val x7, .val x8, .val x9, .val (.ref b73), .val x66, .val x85, .val x105, .val (.ref (own_st p6 wOPEN wCLOSED wCANCELLED)), .val x15, .val x16, .val x17, .val x18, .val (.ref b216), .val x182, .unset, .unset, .unset, .unset, .unset, .unset, .unset, .unset, .unset] [(.ref b249)])) _
        exact kt
      exact ⟨(.ref b249), T248, _, _, (Stand.mono X248 (by decide) (by decide)), N248, rfl, kc255, rfl, oc256, pre257⟩
    · have pre258 : own_Go p e below S0 (Tj223.setTop (mkF m 202 #[.val (.int p1), .val (.int p2), .val (.int p3), .val (.int p4), .val (.int p5), .val (.int p6), .val x6, .val x7, .val x8, .val x9, .val (.ref b73), .val x66, .val x85, .val x105, .val (.ref (own_st p6 wOPEN wCLOSED wCANCELLED)), .val x15, .val x16, .val x17, .val x18, .val (.ref b216), .val x182, .unset, .unset, .unset, .unset, .unset, .unset, .unset, .unset, .unset] [.null])) := by
        intro t kt
        refine pre245 t ?_
        refine XS.ifNo Xj223.here hx rfl (hb hby at_189) rfl ((if0 _ _).trans (feq hc244).1) ?_
        show Steps p.tables e below (Tj223.setTop (mkF m 192 #[.val (.int p1), .val (.int p2), .val (.int p3), .val (.int p4), .val (.int p5), .val (.int p6), .val x6, .val x7, .val x8, .val x9, .val (.ref b73), .val x66, .val x85, .val x105, .val (.ref (own_st p6 wOPEN wCLOSED wCANCELLED)), .val x15, .val x16, .val x17, .val x18, .val (.ref b216), .val x182, .unset, .unset, .unset, .unset, .unset, .unset, .unset, .unset, .unset] [])) _
        refine XS.aconstNull Xj223.here hx rfl (hb hby at_192) ?_
        show Steps p.tables e below (Tj223.setTop (mkF m 193 #[.val (.int p1), .val (.int p2), .val (.int p3), .val (.int p4), .val (.int p5), .val (.int p6), .val x6, .val x7, .val x8, .val x9, .val (.ref b73), .val x66, .val x85, .val x105, .val (.ref (own_st p6 wOPEN wCLOSED wCANCELLED)), .val x15, .val x16, .val x17, .val x18, .val (.ref b216), .val x182, .unset, .unset, .unset, .unset, .unset, .unset, .unset, .unset, .unset] [.null])) _
        refine XS.goto Xj223.here hx rfl (pc0 := 193) (pc' := 202) rfl (hb hby at_193) (by decide) (by decide) ?_
        show Steps p.tables e below (Tj223.setTop (mkF m 202 #[.val (.int p1), .val (.int p2), .val (.int p3), .val (.int p4), .val (.int p5), .val (.int p6), .val x6, .val x7, .val x8, .val x9, .val (.ref b73), .val x66, .val x85, .val x105, .val (.ref (own_st p6 wOPEN wCLOSED wCANCELLED)), .val x15, .val x16, .val x17, .val x18, .val (.ref b216), .val x182, .unset, .unset, .unset, .unset, .unset, .unset, .unset, .unset, .unset] [.null])) _
        exact kt
      exact ⟨.null, Tj223, _, _, (Stand.mono Xj223 (by decide) (by decide)), Nj223, ej223, kjj243, rfl, own_OR.null, pre258⟩
  have zs261 : n0 ≤ hj243.size := Nat.le_trans zs241 Kj243.1
  have pre262 : own_Go p e below S0 (Tj243.setTop (mkF m 204 #[.val (.int p1), .val (.int p2), .val (.int p3), .val (.int p4), .val (.int p5), .val (.int p6), .val x6, .val x7, .val x8, .val x9, .val (.ref b73), .val x66, .val x85, .val x105, .val (.ref (own_st p6 wOPEN wCLOSED wCANCELLED)), .val x15, .val x16, .val x17, .val x18, .val (.ref b216), .val x182, .val x202, .unset, .unset, .unset, .unset, .unset, .unset, .unset, .unset] [])) := by
    intro t kt
    refine prej243 t ?_
    refine XS.astore Xj243.here hx rfl (hb hby at_202) rfl pj259 (l' := #[.val (.int p1), .val (.int p2), .val (.int p3), .val (.int p4), .val (.int p5), .val (.int p6), .val x6, .val x7, .val x8, .val x9, .val (.ref b73), .val x66, .val x85, .val x105, .val (.ref (own_st p6 wOPEN wCLOSED wCANCELLED)), .val x15, .val x16, .val x17, .val x18, .val (.ref b216), .val x182, .val x202, .unset, .unset, .unset, .unset, .unset, .unset, .unset, .unset]) (storeLocals_cat1 (x := .unset) rfl (own_cat pj259) trivial) ?_
    show Steps p.tables e below (Tj243.setTop (mkF m 204 #[.val (.int p1), .val (.int p2), .val (.int p3), .val (.int p4), .val (.int p5), .val (.int p6), .val x6, .val x7, .val x8, .val x9, .val (.ref b73), .val x66, .val x85, .val x105, .val (.ref (own_st p6 wOPEN wCLOSED wCANCELLED)), .val x15, .val x16, .val x17, .val x18, .val (.ref b216), .val x182, .val x202, .unset, .unset, .unset, .unset, .unset, .unset, .unset, .unset] [])) _
    exact kt
  obtain ⟨x223, Tj263, lj263, hj263, Xj263, Nj263, ej263, Kj263, pj279, qj280, prej263⟩ : ∃ (x223 : Value) (Tj263 : State) (lj263 : List Loc) (hj263 : Heap), Stand p l e room_1 s m #[(.int p1), (.int p2), (.int p3), (.int p4), (.int p5), (.int p6)] below meth c Tj263 lj263 32 80 ∧ Fr n0 lj263 ∧ Tj263.heap = hj263 ∧ Keep hj243 hj263 [] ∧ x223.isRef = true ∧ own_OR Z hj263 x223  ∧ own_Go p e below S0 (Tj263.setTop (mkF m 223 #[.val (.int p1), .val (.int p2), .val (.int p3), .val (.int p4), .val (.int p5), .val (.int p6), .val x6, .val x7, .val x8, .val x9, .val (.ref b73), .val x66, .val x85, .val x105, .val (.ref (own_st p6 wOPEN wCLOSED wCANCELLED)), .val x15, .val x16, .val x17, .val x18, .val (.ref b216), .val x182, .val x202, .unset, .unset, .unset, .unset, .unset, .unset, .unset, .unset] [x223])) := by
    have kjj263 : Keep hj243 hj243 [] := Keep.refl _ _
    have pre265 : own_Go p e below S0 (Tj243.setTop (mkF m 210 #[.val (.int p1), .val (.int p2), .val (.int p3), .val (.int p4), .val (.int p5), .val (.int p6), .val x6, .val x7, .val x8, .val x9, .val (.ref b73), .val x66, .val x85, .val x105, .val (.ref (own_st p6 wOPEN wCLOSED wCANCELLED)), .val x15, .val x16, .val x17, .val x18, .val (.ref b216), .val x182, .val x202, .unset, .unset, .unset, .unset, .unset, .unset, .unset, .unset] [(.int (p5 &&& (128 : Int32)))])) := by
      intro t kt
      refine pre262 t ?_
      refine XS.iload Xj243.here hx rfl (hb hby at_204) rfl ?_
      show Steps p.tables e below (Tj243.setTop (mkF m 206 #[.val (.int p1), .val (.int p2), .val (.int p3), .val (.int p4), .val (.int p5), .val (.int p6), .val x6, .val x7, .val x8, .val x9, .val (.ref b73), .val x66, .val x85, .val x105, .val (.ref (own_st p6 wOPEN wCLOSED wCANCELLED)), .val x15, .val x16, .val x17, .val x18, .val (.ref b216), .val x182, .val x202, .unset, .unset, .unset, .unset, .unset, .unset, .unset, .unset] [(.int p5)])) _
      refine XS.sipush Xj243.here hx rfl (hb hby at_206) ?_
      show Steps p.tables e below (Tj243.setTop (mkF m 209 #[.val (.int p1), .val (.int p2), .val (.int p3), .val (.int p4), .val (.int p5), .val (.int p6), .val x6, .val x7, .val x8, .val x9, .val (.ref b73), .val x66, .val x85, .val x105, .val (.ref (own_st p6 wOPEN wCLOSED wCANCELLED)), .val x15, .val x16, .val x17, .val x18, .val (.ref b216), .val x182, .val x202, .unset, .unset, .unset, .unset, .unset, .unset, .unset, .unset] [(.int (128 : Int32)), (.int p5)])) _
      refine XS.iand Xj243.here hx rfl (hb hby at_209) rfl ?_
      show Steps p.tables e below (Tj243.setTop (mkF m 210 #[.val (.int p1), .val (.int p2), .val (.int p3), .val (.int p4), .val (.int p5), .val (.int p6), .val x6, .val x7, .val x8, .val x9, .val (.ref b73), .val x66, .val x85, .val x105, .val (.ref (own_st p6 wOPEN wCLOSED wCANCELLED)), .val x15, .val x16, .val x17, .val x18, .val (.ref b216), .val x182, .val x202, .unset, .unset, .unset, .unset, .unset, .unset, .unset, .unset] [(.int (p5 &&& (128 : Int32)))])) _
      exact kt
    by_cases hc264 : (p5 &&& (128 : Int32)) = (0 : Int32)
    · have pre266 : own_Go p e below S0 (Tj243.setTop (mkF m 220 #[.val (.int p1), .val (.int p2), .val (.int p3), .val (.int p4), .val (.int p5), .val (.int p6), .val x6, .val x7, .val x8, .val x9, .val (.ref b73), .val x66, .val x85, .val x105, .val (.ref (own_st p6 wOPEN wCLOSED wCANCELLED)), .val x15, .val x16, .val x17, .val x18, .val (.ref b216), .val x182, .val x202, .unset, .unset, .unset, .unset, .unset, .unset, .unset, .unset] [(.int (24 : Int32)), (.int p4)])) := by
        intro t kt
        refine pre265 t ?_
        refine XS.ifYes Xj243.here hx rfl (pc0 := 210) (pc' := 217) rfl (hb hby at_210) rfl ((if0 _ _).trans (teq hc264).1) (by decide) (by decide) ?_
        show Steps p.tables e below (Tj243.setTop (mkF m 217 #[.val (.int p1), .val (.int p2), .val (.int p3), .val (.int p4), .val (.int p5), .val (.int p6), .val x6, .val x7, .val x8, .val x9, .val (.ref b73), .val x66, .val x85, .val x105, .val (.ref (own_st p6 wOPEN wCLOSED wCANCELLED)), .val x15, .val x16, .val x17, .val x18, .val (.ref b216), .val x182, .val x202, .unset, .unset, .unset, .unset, .unset, .unset, .unset, .unset] [])) _
        refine XS.iloadN Xj243.here hx rfl (hb hby at_217) rfl ?_
        show Steps p.tables e below (Tj243.setTop (mkF m 218 #[.val (.int p1), .val (.int p2), .val (.int p3), .val (.int p4), .val (.int p5), .val (.int p6), .val x6, .val x7, .val x8, .val x9, .val (.ref b73), .val x66, .val x85, .val x105, .val (.ref (own_st p6 wOPEN wCLOSED wCANCELLED)), .val x15, .val x16, .val x17, .val x18, .val (.ref b216), .val x182, .val x202, .unset, .unset, .unset, .unset, .unset, .unset, .unset, .unset] [(.int p4)])) _
        refine XS.bipush Xj243.here hx rfl (hb hby at_218) ?_
        show Steps p.tables e below (Tj243.setTop (mkF m 220 #[.val (.int p1), .val (.int p2), .val (.int p3), .val (.int p4), .val (.int p5), .val (.int p6), .val x6, .val x7, .val x8, .val x9, .val (.ref b73), .val x66, .val x85, .val x105, .val (.ref (own_st p6 wOPEN wCLOSED wCANCELLED)), .val x15, .val x16, .val x17, .val x18, .val (.ref b216), .val x182, .val x202, .unset, .unset, .unset, .unset, .unset, .unset, .unset, .unset] [(.int (24 : Int32)), (.int p4)])) _
        exact kt
      have f267 : Old Z n0 hj243 := (((f214.keep K215 all0).keep Kj223 all0).keep Kj243 all0)
      obtain ⟨_, _, ⟨T268, L268, k268, n268⟩, -, X268, ⟨Lc268, hQ268, l268, y268, z268⟩, st268⟩ := Jvm.LawKit.callS Xj243 hx (y := (⟨"com/example/refertario/refertario/store/EpisodeAdmittedAsPinLaw", "ch", "(II)Ljava/lang/String;"⟩ : MethodName)) hown (mvT hZ (hw _ (own_w 0 rfl))) (mvT hZ (hw _ (own_w 1 rfl))) (mvT hZ (hw _ (own_w 2 rfl))) (mvT hZ (hw _ (own_w 3 rfl))) (by decide) (backOf (W := 0) (rm1 l Z a0 hw [] p4 (24 : Int32) wC hj243 n0 zs261 f267 qC) hZ (hw _ (own_w 3 rfl)) (hw _ (own_w 2 rfl)) (by decide) (by decide)) (g := (mkF m 220 #[.val (.int p1), .val (.int p2), .val (.int p3), .val (.int p4), .val (.int p5), .val (.int p6), .val x6, .val x7, .val x8, .val x9, .val (.ref b73), .val x66, .val x85, .val x105, .val (.ref (own_st p6 wOPEN wCLOSED wCANCELLED)), .val x15, .val x16, .val x17, .val x18, .val (.ref b216), .val x182, .val x202, .unset, .unset, .unset, .unset, .unset, .unset, .unset, .unset] [(.int (24 : Int32)), (.int p4)])) rfl (by rw [hml]; rfl) (argsL := [(.int p4), (.int (24 : Int32))]) (rest := []) (lenOf pd_9 rfl) rfl (by show 2 * 0 + _ ≤ _; exact Nat.le_of_eq rfl) (hb hby at_220) (fun _ _ => ⟨rfl, ej243, (by decide : 30 + 2 ≤ _), (by decide : 75 + 5 ≤ _)⟩)
      dsimp only [Pt.U, Pt.locs, Pt.cells, Pt.slots] at X268 l268 y268 z268 st268 hQ268
      subst l268 y268 z268
      obtain ⟨b269, rfl, Nq268, K268, g270, g271⟩ := hQ268
      have N268 := Fr.app Nj243 Nq268
      have ge272 : n0 ≤ b269 := Nat.le_trans zs261 g270
      have sz273 : hj243.size ≤ b269 := Nat.le_trans kjj263.1 g270
      have zs274 : n0 ≤ T268.heap.size := Nat.le_trans zs261 K268.1
      have kc275 : Keep hj243 T268.heap [] := kjj263.trans K268 all0
      have oc276 : own_OR Z T268.heap (.ref b269) := own_OR.of g271
      have pre277 : own_Go p e below S0 (T268.setTop (mkF m 223 #[.val (.int p1), .val (.int p2), .val (.int p3), .val (.int p4), .val (.int p5), .val (.int p6), .val x6, .val x7, .val x8, .val x9, .val (.ref b73), .val x66, .val x85, .val x105, .val (.ref (own_st p6 wOPEN wCLOSED wCANCELLED)), .val x15, .val x16, .val x17, .val x18, .val (.ref b216), .val x182, .val x202, .unset, .unset, .unset, .unset, .unset, .unset, .unset, .unset] [(.ref b269)])) := by
        intro t kt
        refine pre266 t ?_
        refine st268 _ ?_
        show Steps p.tables e below (T268.setTop (mkF m 223 #[.val (.int p1), .val (.int p2), .val (.int p3), .val (.int p4), .val (.int p5), .val (.int p6), .val x6, .val x7, .val x8, .val x9, .val (.ref b73), .val x66, .val x85, .val x105, .val (.ref (own_st p6 wOPEN wCLOSED wCANCELLED)), .val x15, .val x16, .val x17, .val x18, .val (.ref b216), .val x182, .val x202, .unset, .unset, .unset, .unset, .unset, .unset, .unset, .unset] [(.ref b269)])) _
        exact kt
      exact ⟨(.ref b269), T268, _, _, (Stand.mono X268 (by decide) (by decide)), N268, rfl, kc275, rfl, oc276, pre277⟩
    · have pre278 : own_Go p e below S0 (Tj243.setTop (mkF m 223 #[.val (.int p1), .val (.int p2), .val (.int p3), .val (.int p4), .val (.int p5), .val (.int p6), .val x6, .val x7, .val x8, .val x9, .val (.ref b73), .val x66, .val x85, .val x105, .val (.ref (own_st p6 wOPEN wCLOSED wCANCELLED)), .val x15, .val x16, .val x17, .val x18, .val (.ref b216), .val x182, .val x202, .unset, .unset, .unset, .unset, .unset, .unset, .unset, .unset] [.null])) := by
        intro t kt
        refine pre265 t ?_
        refine XS.ifNo Xj243.here hx rfl (hb hby at_210) rfl ((if0 _ _).trans (feq hc264).1) ?_
        show Steps p.tables e below (Tj243.setTop (mkF m 213 #[.val (.int p1), .val (.int p2), .val (.int p3), .val (.int p4), .val (.int p5), .val (.int p6), .val x6, .val x7, .val x8, .val x9, .val (.ref b73), .val x66, .val x85, .val x105, .val (.ref (own_st p6 wOPEN wCLOSED wCANCELLED)), .val x15, .val x16, .val x17, .val x18, .val (.ref b216), .val x182, .val x202, .unset, .unset, .unset, .unset, .unset, .unset, .unset, .unset] [])) _
        refine XS.aconstNull Xj243.here hx rfl (hb hby at_213) ?_
        show Steps p.tables e below (Tj243.setTop (mkF m 214 #[.val (.int p1), .val (.int p2), .val (.int p3), .val (.int p4), .val (.int p5), .val (.int p6), .val x6, .val x7, .val x8, .val x9, .val (.ref b73), .val x66, .val x85, .val x105, .val (.ref (own_st p6 wOPEN wCLOSED wCANCELLED)), .val x15, .val x16, .val x17, .val x18, .val (.ref b216), .val x182, .val x202, .unset, .unset, .unset, .unset, .unset, .unset, .unset, .unset] [.null])) _
        refine XS.goto Xj243.here hx rfl (pc0 := 214) (pc' := 223) rfl (hb hby at_214) (by decide) (by decide) ?_
        show Steps p.tables e below (Tj243.setTop (mkF m 223 #[.val (.int p1), .val (.int p2), .val (.int p3), .val (.int p4), .val (.int p5), .val (.int p6), .val x6, .val x7, .val x8, .val x9, .val (.ref b73), .val x66, .val x85, .val x105, .val (.ref (own_st p6 wOPEN wCLOSED wCANCELLED)), .val x15, .val x16, .val x17, .val x18, .val (.ref b216), .val x182, .val x202, .unset, .unset, .unset, .unset, .unset, .unset, .unset, .unset] [.null])) _
        exact kt
      exact ⟨.null, Tj243, _, _, (Stand.mono Xj243 (by decide) (by decide)), Nj243, ej243, kjj263, rfl, own_OR.null, pre278⟩
  have zs281 : n0 ≤ hj263.size := Nat.le_trans zs261 Kj263.1
  have pre282 : own_Go p e below S0 (Tj263.setTop (mkF m 230 #[.val (.int p1), .val (.int p2), .val (.int p3), .val (.int p4), .val (.int p5), .val (.int p6), .val x6, .val x7, .val x8, .val x9, .val (.ref b73), .val x66, .val x85, .val x105, .val (.ref (own_st p6 wOPEN wCLOSED wCANCELLED)), .val x15, .val x16, .val x17, .val x18, .val (.ref b216), .val x182, .val x202, .val x223, .unset, .unset, .unset, .unset, .unset, .unset, .unset] [(.int ((p6.toUInt32 >>> ((8 : Int32) &&& 31).toUInt32).toInt32))])) := by
    intro t kt
    refine prej263 t ?_
    refine XS.astore Xj263.here hx rfl (hb hby at_223) rfl pj279 (l' := #[.val (.int p1), .val (.int p2), .val (.int p3), .val (.int p4), .val (.int p5), .val (.int p6), .val x6, .val x7, .val x8, .val x9, .val (.ref b73), .val x66, .val x85, .val x105, .val (.ref (own_st p6 wOPEN wCLOSED wCANCELLED)), .val x15, .val x16, .val x17, .val x18, .val (.ref b216), .val x182, .val x202, .val x223, .unset, .unset, .unset, .unset, .unset, .unset, .unset]) (storeLocals_cat1 (x := .unset) rfl (own_cat pj279) trivial) ?_
    show Steps p.tables e below (Tj263.setTop (mkF m 225 #[.val (.int p1), .val (.int p2), .val (.int p3), .val (.int p4), .val (.int p5), .val (.int p6), .val x6, .val x7, .val x8, .val x9, .val (.ref b73), .val x66, .val x85, .val x105, .val (.ref (own_st p6 wOPEN wCLOSED wCANCELLED)), .val x15, .val x16, .val x17, .val x18, .val (.ref b216), .val x182, .val x202, .val x223, .unset, .unset, .unset, .unset, .unset, .unset, .unset] [])) _
    refine XS.iload Xj263.here hx rfl (hb hby at_225) rfl ?_
    show Steps p.tables e below (Tj263.setTop (mkF m 227 #[.val (.int p1), .val (.int p2), .val (.int p3), .val (.int p4), .val (.int p5), .val (.int p6), .val x6, .val x7, .val x8, .val x9, .val (.ref b73), .val x66, .val x85, .val x105, .val (.ref (own_st p6 wOPEN wCLOSED wCANCELLED)), .val x15, .val x16, .val x17, .val x18, .val (.ref b216), .val x182, .val x202, .val x223, .unset, .unset, .unset, .unset, .unset, .unset, .unset] [(.int p6)])) _
    refine XS.bipush Xj263.here hx rfl (hb hby at_227) ?_
    show Steps p.tables e below (Tj263.setTop (mkF m 229 #[.val (.int p1), .val (.int p2), .val (.int p3), .val (.int p4), .val (.int p5), .val (.int p6), .val x6, .val x7, .val x8, .val x9, .val (.ref b73), .val x66, .val x85, .val x105, .val (.ref (own_st p6 wOPEN wCLOSED wCANCELLED)), .val x15, .val x16, .val x17, .val x18, .val (.ref b216), .val x182, .val x202, .val x223, .unset, .unset, .unset, .unset, .unset, .unset, .unset] [(.int (8 : Int32)), (.int p6)])) _
    refine XS.iushr Xj263.here hx rfl (hb hby at_229) rfl ?_
    show Steps p.tables e below (Tj263.setTop (mkF m 230 #[.val (.int p1), .val (.int p2), .val (.int p3), .val (.int p4), .val (.int p5), .val (.int p6), .val x6, .val x7, .val x8, .val x9, .val (.ref b73), .val x66, .val x85, .val x105, .val (.ref (own_st p6 wOPEN wCLOSED wCANCELLED)), .val x15, .val x16, .val x17, .val x18, .val (.ref b216), .val x182, .val x202, .val x223, .unset, .unset, .unset, .unset, .unset, .unset, .unset] [(.int ((p6.toUInt32 >>> ((8 : Int32) &&& 31).toUInt32).toInt32))])) _
    exact kt
  have f283 := (((f214.keep K215 all0).keep Kj223 all0).keep Kj243 all0)
  have f284 : Old Z n0 hj263 := (f283.keep Kj263 all0)
  obtain ⟨_, _, ⟨T285, L285, k285, n285⟩, -, X285, ⟨Lc285, hQ285, l285, y285, z285⟩, st285⟩ := Jvm.LawKit.callS Xj263 hx (y := (⟨"com/example/refertario/refertario/store/EpisodeAdmittedAsPinLaw", "status", "(I)Lcom/example/refertario/refertario/store/Episode$Status;"⟩ : MethodName)) hown (mvT hZ (hw _ (own_w 30 rfl))) (mvT hZ (hw _ (own_w 31 rfl))) (mvT hZ (hw _ (own_w 2 rfl))) (mvT hZ (hw _ (own_w 32 rfl))) (by decide) (backOf (W := 0) (rm7 l Z a0 hw [] ((p6.toUInt32 >>> ((8 : Int32) &&& 31).toUInt32).toInt32) wOPEN wCLOSED wCANCELLED hj263 n0 zs281 f284 SOPEN SCLOSED SCANCELLED) hZ (hw _ (own_w 32 rfl)) (hw _ (own_w 2 rfl)) (by decide) (by decide)) (g := (mkF m 230 #[.val (.int p1), .val (.int p2), .val (.int p3), .val (.int p4), .val (.int p5), .val (.int p6), .val x6, .val x7, .val x8, .val x9, .val (.ref b73), .val x66, .val x85, .val x105, .val (.ref (own_st p6 wOPEN wCLOSED wCANCELLED)), .val x15, .val x16, .val x17, .val x18, .val (.ref b216), .val x182, .val x202, .val x223, .unset, .unset, .unset, .unset, .unset, .unset, .unset] [(.int ((p6.toUInt32 >>> ((8 : Int32) &&& 31).toUInt32).toInt32))])) rfl (by rw [hml]; rfl) (argsL := [(.int ((p6.toUInt32 >>> ((8 : Int32) &&& 31).toUInt32).toInt32))]) (rest := []) (lenOf pd_10 rfl) rfl (by show 2 * 0 + _ ≤ _; exact Nat.le_of_eq rfl) (hb hby at_230) (fun _ _ => ⟨rfl, ej263, (by decide : 32 + 0 ≤ _), (by decide : 80 + 0 ≤ _)⟩)
  dsimp only [Pt.U, Pt.locs, Pt.cells, Pt.slots] at X285 l285 y285 z285 st285 hQ285
  subst l285 y285 z285
  obtain ⟨rfl, Nq285, eq285⟩ := hQ285
  have N285 := Fr.app Nj263 Nq285
  have pre286 : own_Go p e below S0 (T285.setTop (mkF m 235 #[.val (.int p1), .val (.int p2), .val (.int p3), .val (.int p4), .val (.int p5), .val (.int p6), .val x6, .val x7, .val x8, .val x9, .val (.ref b73), .val x66, .val x85, .val x105, .val (.ref (own_st p6 wOPEN wCLOSED wCANCELLED)), .val x15, .val x16, .val x17, .val x18, .val (.ref b216), .val x182, .val x202, .val x223, .val (.ref (own_st ((p6.toUInt32 >>> ((8 : Int32) &&& 31).toUInt32).toInt32) wOPEN wCLOSED wCANCELLED)), .unset, .unset, .unset, .unset, .unset, .unset] [])) := by
    intro t kt
    refine pre282 t ?_
    refine st285 _ ?_
    show Steps p.tables e below (T285.setTop (mkF m 233 #[.val (.int p1), .val (.int p2), .val (.int p3), .val (.int p4), .val (.int p5), .val (.int p6), .val x6, .val x7, .val x8, .val x9, .val (.ref b73), .val x66, .val x85, .val x105, .val (.ref (own_st p6 wOPEN wCLOSED wCANCELLED)), .val x15, .val x16, .val x17, .val x18, .val (.ref b216), .val x182, .val x202, .val x223, .unset, .unset, .unset, .unset, .unset, .unset, .unset] [(.ref (own_st ((p6.toUInt32 >>> ((8 : Int32) &&& 31).toUInt32).toInt32) wOPEN wCLOSED wCANCELLED))])) _
    refine XS.astore X285.here hx rfl (hb hby at_233) rfl rfl (l' := #[.val (.int p1), .val (.int p2), .val (.int p3), .val (.int p4), .val (.int p5), .val (.int p6), .val x6, .val x7, .val x8, .val x9, .val (.ref b73), .val x66, .val x85, .val x105, .val (.ref (own_st p6 wOPEN wCLOSED wCANCELLED)), .val x15, .val x16, .val x17, .val x18, .val (.ref b216), .val x182, .val x202, .val x223, .val (.ref (own_st ((p6.toUInt32 >>> ((8 : Int32) &&& 31).toUInt32).toInt32) wOPEN wCLOSED wCANCELLED)), .unset, .unset, .unset, .unset, .unset, .unset]) rfl ?_
    show Steps p.tables e below (T285.setTop (mkF m 235 #[.val (.int p1), .val (.int p2), .val (.int p3), .val (.int p4), .val (.int p5), .val (.int p6), .val x6, .val x7, .val x8, .val x9, .val (.ref b73), .val x66, .val x85, .val x105, .val (.ref (own_st p6 wOPEN wCLOSED wCANCELLED)), .val x15, .val x16, .val x17, .val x18, .val (.ref b216), .val x182, .val x202, .val x223, .val (.ref (own_st ((p6.toUInt32 >>> ((8 : Int32) &&& 31).toUInt32).toInt32) wOPEN wCLOSED wCANCELLED)), .unset, .unset, .unset, .unset, .unset, .unset] [])) _
    exact kt
  obtain ⟨T287, h287, X287, e287, E287, A287, D287, -, st287⟩ := newO X285 hx hZ hown (hw _ (own_w 36 rfl)) (hw _ (own_w 37 rfl)) (hw _ (own_w 38 rfl)) eq285 (g := (mkF m 235 #[.val (.int p1), .val (.int p2), .val (.int p3), .val (.int p4), .val (.int p5), .val (.int p6), .val x6, .val x7, .val x8, .val x9, .val (.ref b73), .val x66, .val x85, .val x105, .val (.ref (own_st p6 wOPEN wCLOSED wCANCELLED)), .val x15, .val x16, .val x17, .val x18, .val (.ref b216), .val x182, .val x202, .val x223, .val (.ref (own_st ((p6.toUInt32 >>> ((8 : Int32) &&& 31).toUInt32).toInt32) wOPEN wCLOSED wCANCELLED)), .unset, .unset, .unset, .unset, .unset, .unset] [])) rfl (hb hby at_235) (by decide) (by decide)
  obtain ⟨b287, g287⟩ : ∃ z, z = hj263.size := ⟨_, rfl⟩
  rw [← g287] at A287 D287 st287
  have ge288 : n0 ≤ b287 := Nat.le_trans zs281 (Nat.le_of_eq g287.symm)
  have zs289 : n0 ≤ h287.size := Nat.le_trans zs281 E287.1
  have fd290 : Fld Z h287 b287 "com/example/refertario/refertario/store/Episode" "application" "Ljava/lang/String;" .null := D287 (Or.inr (hw _ (own_w 49 rfl))) (ty := (.object "java/lang/String")) (by decide)
  have fd291 : Fld Z h287 b287 "com/example/refertario/refertario/store/Episode" "id" "Ljava/lang/String;" .null := D287 (Or.inr (hw _ (own_w 51 rfl))) (ty := (.object "java/lang/String")) (by decide)
  have fd292 : Fld Z h287 b287 "com/example/refertario/refertario/store/Episode" "idType" "Ljava/lang/String;" .null := D287 (Or.inr (hw _ (own_w 53 rfl))) (ty := (.object "java/lang/String")) (by decide)
  have fd293 : Fld Z h287 b287 "com/example/refertario/refertario/store/Episode" "patient" "Ljava/lang/String;" .null := D287 (Or.inr (hw _ (own_w 55 rfl))) (ty := (.object "java/lang/String")) (by decide)
  have fd294 : Fld Z h287 b287 "com/example/refertario/refertario/store/Episode" "patientClass" "Ljava/lang/String;" .null := D287 (Or.inr (hw _ (own_w 57 rfl))) (ty := (.object "java/lang/String")) (by decide)
  have fd295 : Fld Z h287 b287 "com/example/refertario/refertario/store/Episode" "pointOfCare" "Ljava/lang/String;" .null := D287 (Or.inr (hw _ (own_w 59 rfl))) (ty := (.object "java/lang/String")) (by decide)
  have fd296 : Fld Z h287 b287 "com/example/refertario/refertario/store/Episode" "admitted" "Ljava/lang/String;" .null := D287 (Or.inr (hw _ (own_w 61 rfl))) (ty := (.object "java/lang/String")) (by decide)
  have fd297 : Fld Z h287 b287 "com/example/refertario/refertario/store/Episode" "discharged" "Ljava/lang/String;" .null := D287 (Or.inr (hw _ (own_w 63 rfl))) (ty := (.object "java/lang/String")) (by decide)
  have fd298 : Fld Z h287 b287 "com/example/refertario/refertario/store/Episode" "status" "Lcom/example/refertario/refertario/store/Episode$Status;" .null := D287 (Or.inr (hw _ (own_w 65 rfl))) (ty := (.object "com/example/refertario/refertario/store/Episode$Status")) (by decide)
  have pre299 : own_Go p e below S0 (T287.setTop (mkF m 257 #[.val (.int p1), .val (.int p2), .val (.int p3), .val (.int p4), .val (.int p5), .val (.int p6), .val x6, .val x7, .val x8, .val x9, .val (.ref b73), .val x66, .val x85, .val x105, .val (.ref (own_st p6 wOPEN wCLOSED wCANCELLED)), .val x15, .val x16, .val x17, .val x18, .val (.ref b216), .val x182, .val x202, .val x223, .val (.ref (own_st ((p6.toUInt32 >>> ((8 : Int32) &&& 31).toUInt32).toInt32) wOPEN wCLOSED wCANCELLED)), .unset, .unset, .unset, .unset, .unset, .unset] [(.ref (own_st p6 wOPEN wCLOSED wCANCELLED)), x105, x85, x66, (.ref b73), x9, x8, x7, x6, (.ref b287), (.ref b287)])) := by
    intro t kt
    refine pre286 t ?_
    refine st287 _ ?_
    show Steps p.tables e below (T287.setTop (mkF m 238 #[.val (.int p1), .val (.int p2), .val (.int p3), .val (.int p4), .val (.int p5), .val (.int p6), .val x6, .val x7, .val x8, .val x9, .val (.ref b73), .val x66, .val x85, .val x105, .val (.ref (own_st p6 wOPEN wCLOSED wCANCELLED)), .val x15, .val x16, .val x17, .val x18, .val (.ref b216), .val x182, .val x202, .val x223, .val (.ref (own_st ((p6.toUInt32 >>> ((8 : Int32) &&& 31).toUInt32).toInt32) wOPEN wCLOSED wCANCELLED)), .unset, .unset, .unset, .unset, .unset, .unset] [(.ref b287)])) _
    refine XS.dup X287.here hx rfl (hb hby at_238) rfl rfl ?_
    show Steps p.tables e below (T287.setTop (mkF m 239 #[.val (.int p1), .val (.int p2), .val (.int p3), .val (.int p4), .val (.int p5), .val (.int p6), .val x6, .val x7, .val x8, .val x9, .val (.ref b73), .val x66, .val x85, .val x105, .val (.ref (own_st p6 wOPEN wCLOSED wCANCELLED)), .val x15, .val x16, .val x17, .val x18, .val (.ref b216), .val x182, .val x202, .val x223, .val (.ref (own_st ((p6.toUInt32 >>> ((8 : Int32) &&& 31).toUInt32).toInt32) wOPEN wCLOSED wCANCELLED)), .unset, .unset, .unset, .unset, .unset, .unset] [(.ref b287), (.ref b287)])) _
    refine XS.aload X287.here hx rfl (hb hby at_239) rfl pj61 ?_
    show Steps p.tables e below (T287.setTop (mkF m 241 #[.val (.int p1), .val (.int p2), .val (.int p3), .val (.int p4), .val (.int p5), .val (.int p6), .val x6, .val x7, .val x8, .val x9, .val (.ref b73), .val x66, .val x85, .val x105, .val (.ref (own_st p6 wOPEN wCLOSED wCANCELLED)), .val x15, .val x16, .val x17, .val x18, .val (.ref b216), .val x182, .val x202, .val x223, .val (.ref (own_st ((p6.toUInt32 >>> ((8 : Int32) &&& 31).toUInt32).toInt32) wOPEN wCLOSED wCANCELLED)), .unset, .unset, .unset, .unset, .unset, .unset] [x6, (.ref b287), (.ref b287)])) _
    refine XS.aload X287.here hx rfl (hb hby at_241) rfl pj62 ?_
    show Steps p.tables e below (T287.setTop (mkF m 243 #[.val (.int p1), .val (.int p2), .val (.int p3), .val (.int p4), .val (.int p5), .val (.int p6), .val x6, .val x7, .val x8, .val x9, .val (.ref b73), .val x66, .val x85, .val x105, .val (.ref (own_st p6 wOPEN wCLOSED wCANCELLED)), .val x15, .val x16, .val x17, .val x18, .val (.ref b216), .val x182, .val x202, .val x223, .val (.ref (own_st ((p6.toUInt32 >>> ((8 : Int32) &&& 31).toUInt32).toInt32) wOPEN wCLOSED wCANCELLED)), .unset, .unset, .unset, .unset, .unset, .unset] [x7, x6, (.ref b287), (.ref b287)])) _
    refine XS.aload X287.here hx rfl (hb hby at_243) rfl pj63 ?_
    show Steps p.tables e below (T287.setTop (mkF m 245 #[.val (.int p1), .val (.int p2), .val (.int p3), .val (.int p4), .val (.int p5), .val (.int p6), .val x6, .val x7, .val x8, .val x9, .val (.ref b73), .val x66, .val x85, .val x105, .val (.ref (own_st p6 wOPEN wCLOSED wCANCELLED)), .val x15, .val x16, .val x17, .val x18, .val (.ref b216), .val x182, .val x202, .val x223, .val (.ref (own_st ((p6.toUInt32 >>> ((8 : Int32) &&& 31).toUInt32).toInt32) wOPEN wCLOSED wCANCELLED)), .unset, .unset, .unset, .unset, .unset, .unset] [x8, x7, x6, (.ref b287), (.ref b287)])) _
    refine XS.aload X287.here hx rfl (hb hby at_245) rfl pj64 ?_
    show Steps p.tables e below (T287.setTop (mkF m 247 #[.val (.int p1), .val (.int p2), .val (.int p3), .val (.int p4), .val (.int p5), .val (.int p6), .val x6, .val x7, .val x8, .val x9, .val (.ref b73), .val x66, .val x85, .val x105, .val (.ref (own_st p6 wOPEN wCLOSED wCANCELLED)), .val x15, .val x16, .val x17, .val x18, .val (.ref b216), .val x182, .val x202, .val x223, .val (.ref (own_st ((p6.toUInt32 >>> ((8 : Int32) &&& 31).toUInt32).toInt32) wOPEN wCLOSED wCANCELLED)), .unset, .unset, .unset, .unset, .unset, .unset] [x9, x8, x7, x6, (.ref b287), (.ref b287)])) _
    refine XS.aload X287.here hx rfl (hb hby at_247) rfl rfl ?_
    show Steps p.tables e below (T287.setTop (mkF m 249 #[.val (.int p1), .val (.int p2), .val (.int p3), .val (.int p4), .val (.int p5), .val (.int p6), .val x6, .val x7, .val x8, .val x9, .val (.ref b73), .val x66, .val x85, .val x105, .val (.ref (own_st p6 wOPEN wCLOSED wCANCELLED)), .val x15, .val x16, .val x17, .val x18, .val (.ref b216), .val x182, .val x202, .val x223, .val (.ref (own_st ((p6.toUInt32 >>> ((8 : Int32) &&& 31).toUInt32).toInt32) wOPEN wCLOSED wCANCELLED)), .unset, .unset, .unset, .unset, .unset, .unset] [(.ref b73), x9, x8, x7, x6, (.ref b287), (.ref b287)])) _
    refine XS.aload X287.here hx rfl (hb hby at_249) rfl pj96 ?_
    show Steps p.tables e below (T287.setTop (mkF m 251 #[.val (.int p1), .val (.int p2), .val (.int p3), .val (.int p4), .val (.int p5), .val (.int p6), .val x6, .val x7, .val x8, .val x9, .val (.ref b73), .val x66, .val x85, .val x105, .val (.ref (own_st p6 wOPEN wCLOSED wCANCELLED)), .val x15, .val x16, .val x17, .val x18, .val (.ref b216), .val x182, .val x202, .val x223, .val (.ref (own_st ((p6.toUInt32 >>> ((8 : Int32) &&& 31).toUInt32).toInt32) wOPEN wCLOSED wCANCELLED)), .unset, .unset, .unset, .unset, .unset, .unset] [x66, (.ref b73), x9, x8, x7, x6, (.ref b287), (.ref b287)])) _
    refine XS.aload X287.here hx rfl (hb hby at_251) rfl pj116 ?_
    show Steps p.tables e below (T287.setTop (mkF m 253 #[.val (.int p1), .val (.int p2), .val (.int p3), .val (.int p4), .val (.int p5), .val (.int p6), .val x6, .val x7, .val x8, .val x9, .val (.ref b73), .val x66, .val x85, .val x105, .val (.ref (own_st p6 wOPEN wCLOSED wCANCELLED)), .val x15, .val x16, .val x17, .val x18, .val (.ref b216), .val x182, .val x202, .val x223, .val (.ref (own_st ((p6.toUInt32 >>> ((8 : Int32) &&& 31).toUInt32).toInt32) wOPEN wCLOSED wCANCELLED)), .unset, .unset, .unset, .unset, .unset, .unset] [x85, x66, (.ref b73), x9, x8, x7, x6, (.ref b287), (.ref b287)])) _
    refine XS.aload X287.here hx rfl (hb hby at_253) rfl pj136 ?_
    show Steps p.tables e below (T287.setTop (mkF m 255 #[.val (.int p1), .val (.int p2), .val (.int p3), .val (.int p4), .val (.int p5), .val (.int p6), .val x6, .val x7, .val x8, .val x9, .val (.ref b73), .val x66, .val x85, .val x105, .val (.ref (own_st p6 wOPEN wCLOSED wCANCELLED)), .val x15, .val x16, .val x17, .val x18, .val (.ref b216), .val x182, .val x202, .val x223, .val (.ref (own_st ((p6.toUInt32 >>> ((8 : Int32) &&& 31).toUInt32).toInt32) wOPEN wCLOSED wCANCELLED)), .unset, .unset, .unset, .unset, .unset, .unset] [x105, x85, x66, (.ref b73), x9, x8, x7, x6, (.ref b287), (.ref b287)])) _
    refine XS.aload X287.here hx rfl (hb hby at_255) rfl rfl ?_
    show Steps p.tables e below (T287.setTop (mkF m 257 #[.val (.int p1), .val (.int p2), .val (.int p3), .val (.int p4), .val (.int p5), .val (.int p6), .val x6, .val x7, .val x8, .val x9, .val (.ref b73), .val x66, .val x85, .val x105, .val (.ref (own_st p6 wOPEN wCLOSED wCANCELLED)), .val x15, .val x16, .val x17, .val x18, .val (.ref b216), .val x182, .val x202, .val x223, .val (.ref (own_st ((p6.toUInt32 >>> ((8 : Int32) &&& 31).toUInt32).toInt32) wOPEN wCLOSED wCANCELLED)), .unset, .unset, .unset, .unset, .unset, .unset] [(.ref (own_st p6 wOPEN wCLOSED wCANCELLED)), x105, x85, x66, (.ref b73), x9, x8, x7, x6, (.ref b287), (.ref b287)])) _
    exact kt
  obtain ⟨_, _, ⟨T300, L300, k300, n300⟩, -, X300, ⟨Lc300, hQ300, l300, y300, z300⟩, st300⟩ := X287.specialBack hx (y := (⟨"com/example/refertario/refertario/store/Episode", "<init>", "(Ljava/lang/String;Ljava/lang/String;Ljava/lang/String;Ljava/lang/String;Ljava/lang/String;Ljava/lang/String;Ljava/lang/String;Ljava/lang/String;Lcom/example/refertario/refertario/store/Episode$Status;)V"⟩ : MethodName)) rfl hown (mvT hZ (hw _ (own_w 39 rfl))) (mvT hZ (hw _ (own_w 40 rfl))) (mvT hZ (hw _ (own_w 41 rfl))) (by decide) (backOf (W := 1) (rm8 l Z a0 hw [] b287 x6 x7 x8 x9 (.ref b73) x66 x85 x105 (.ref (own_st p6 wOPEN wCLOSED wCANCELLED)) h287 n0 zs289 pj61 pj62 pj63 pj64 rfl pj96 pj116 pj136 rfl A287 ge288 fd290 fd291 fd292 fd293 fd294 fd295 fd296 fd297 fd298) hZ (hw _ (own_w 41 rfl)) (hw _ (own_w 38 rfl)) (by decide) (by decide)) (g := (mkF m 257 #[.val (.int p1), .val (.int p2), .val (.int p3), .val (.int p4), .val (.int p5), .val (.int p6), .val x6, .val x7, .val x8, .val x9, .val (.ref b73), .val x66, .val x85, .val x105, .val (.ref (own_st p6 wOPEN wCLOSED wCANCELLED)), .val x15, .val x16, .val x17, .val x18, .val (.ref b216), .val x182, .val x202, .val x223, .val (.ref (own_st ((p6.toUInt32 >>> ((8 : Int32) &&& 31).toUInt32).toInt32) wOPEN wCLOSED wCANCELLED)), .unset, .unset, .unset, .unset, .unset, .unset] [(.ref (own_st p6 wOPEN wCLOSED wCANCELLED)), x105, x85, x66, (.ref b73), x9, x8, x7, x6, (.ref b287), (.ref b287)])) rfl (by rw [hml]; rfl) (Steps.refl _) (a := b287) (argsL := [x6, x7, x8, x9, (.ref b73), x66, x85, x105, (.ref (own_st p6 wOPEN wCLOSED wCANCELLED))]) (rest := [(.ref b287)]) (lenOf pd_5 rfl) rfl (by show 2 * 0 + _ ≤ _; exact Nat.le_of_eq rfl) (hb hby at_257) (fun _ _ => ⟨rfl, e287, (by decide : 33 + 0 ≤ _), (by decide : 89 + 0 ≤ _)⟩)
  dsimp only [Pt.U, Pt.locs, Pt.cells, Pt.slots] at X300 l300 y300 z300 st300 hQ300
  subst l300 y300 z300
  obtain ⟨rfl, Nq300, K300, g301, g302, g303, g304, g305, g306, g307, g308, g309, g310⟩ := hQ300
  have N300 := Fr.app N285 Nq300
  have zs311 : n0 ≤ T300.heap.size := Nat.le_trans zs289 K300.1
  have pre312 : own_Go p e below S0 (T300.setTop (mkF m 262 #[.val (.int p1), .val (.int p2), .val (.int p3), .val (.int p4), .val (.int p5), .val (.int p6), .val x6, .val x7, .val x8, .val x9, .val (.ref b73), .val x66, .val x85, .val x105, .val (.ref (own_st p6 wOPEN wCLOSED wCANCELLED)), .val x15, .val x16, .val x17, .val x18, .val (.ref b216), .val x182, .val x202, .val x223, .val (.ref (own_st ((p6.toUInt32 >>> ((8 : Int32) &&& 31).toUInt32).toInt32) wOPEN wCLOSED wCANCELLED)), .val (.ref b287), .unset, .unset, .unset, .unset, .unset] [])) := by
    intro t kt
    refine pre299 t ?_
    refine st300.trans ?_
    show Steps p.tables e below (T300.setTop (mkF m 260 #[.val (.int p1), .val (.int p2), .val (.int p3), .val (.int p4), .val (.int p5), .val (.int p6), .val x6, .val x7, .val x8, .val x9, .val (.ref b73), .val x66, .val x85, .val x105, .val (.ref (own_st p6 wOPEN wCLOSED wCANCELLED)), .val x15, .val x16, .val x17, .val x18, .val (.ref b216), .val x182, .val x202, .val x223, .val (.ref (own_st ((p6.toUInt32 >>> ((8 : Int32) &&& 31).toUInt32).toInt32) wOPEN wCLOSED wCANCELLED)), .unset, .unset, .unset, .unset, .unset, .unset] [(.ref b287)])) _
    refine XS.astore X300.here hx rfl (hb hby at_260) rfl rfl (l' := #[.val (.int p1), .val (.int p2), .val (.int p3), .val (.int p4), .val (.int p5), .val (.int p6), .val x6, .val x7, .val x8, .val x9, .val (.ref b73), .val x66, .val x85, .val x105, .val (.ref (own_st p6 wOPEN wCLOSED wCANCELLED)), .val x15, .val x16, .val x17, .val x18, .val (.ref b216), .val x182, .val x202, .val x223, .val (.ref (own_st ((p6.toUInt32 >>> ((8 : Int32) &&& 31).toUInt32).toInt32) wOPEN wCLOSED wCANCELLED)), .val (.ref b287), .unset, .unset, .unset, .unset, .unset]) rfl ?_
    show Steps p.tables e below (T300.setTop (mkF m 262 #[.val (.int p1), .val (.int p2), .val (.int p3), .val (.int p4), .val (.int p5), .val (.int p6), .val x6, .val x7, .val x8, .val x9, .val (.ref b73), .val x66, .val x85, .val x105, .val (.ref (own_st p6 wOPEN wCLOSED wCANCELLED)), .val x15, .val x16, .val x17, .val x18, .val (.ref b216), .val x182, .val x202, .val x223, .val (.ref (own_st ((p6.toUInt32 >>> ((8 : Int32) &&& 31).toUInt32).toInt32) wOPEN wCLOSED wCANCELLED)), .val (.ref b287), .unset, .unset, .unset, .unset, .unset] [])) _
    exact kt
  obtain ⟨T313, h313, X313, e313, E313, A313, D313, -, st313⟩ := newO X300 hx hZ hown (hw _ (own_w 36 rfl)) (hw _ (own_w 37 rfl)) (hw _ (own_w 38 rfl)) rfl (g := (mkF m 262 #[.val (.int p1), .val (.int p2), .val (.int p3), .val (.int p4), .val (.int p5), .val (.int p6), .val x6, .val x7, .val x8, .val x9, .val (.ref b73), .val x66, .val x85, .val x105, .val (.ref (own_st p6 wOPEN wCLOSED wCANCELLED)), .val x15, .val x16, .val x17, .val x18, .val (.ref b216), .val x182, .val x202, .val x223, .val (.ref (own_st ((p6.toUInt32 >>> ((8 : Int32) &&& 31).toUInt32).toInt32) wOPEN wCLOSED wCANCELLED)), .val (.ref b287), .unset, .unset, .unset, .unset, .unset] [])) rfl (hb hby at_262) (by decide) (by decide)
  obtain ⟨b313, g313⟩ : ∃ z, z = T300.heap.size := ⟨_, rfl⟩
  rw [← g313] at A313 D313 st313
  have ne314 : b287 ≠ b313 := Nat.ne_of_lt (Nat.lt_of_lt_of_le g301.lt (Nat.le_of_eq g313.symm))
  have ge315 : n0 ≤ b313 := Nat.le_trans zs311 (Nat.le_of_eq g313.symm)
  have zs316 : n0 ≤ h313.size := Nat.le_trans zs311 E313.1
  have fd317 : Fld Z h313 b313 "com/example/refertario/refertario/store/Episode" "application" "Ljava/lang/String;" .null := D313 (Or.inr (hw _ (own_w 49 rfl))) (ty := (.object "java/lang/String")) (by decide)
  have fd318 : Fld Z h313 b313 "com/example/refertario/refertario/store/Episode" "id" "Ljava/lang/String;" .null := D313 (Or.inr (hw _ (own_w 51 rfl))) (ty := (.object "java/lang/String")) (by decide)
  have fd319 : Fld Z h313 b313 "com/example/refertario/refertario/store/Episode" "idType" "Ljava/lang/String;" .null := D313 (Or.inr (hw _ (own_w 53 rfl))) (ty := (.object "java/lang/String")) (by decide)
  have fd320 : Fld Z h313 b313 "com/example/refertario/refertario/store/Episode" "patient" "Ljava/lang/String;" .null := D313 (Or.inr (hw _ (own_w 55 rfl))) (ty := (.object "java/lang/String")) (by decide)
  have fd321 : Fld Z h313 b313 "com/example/refertario/refertario/store/Episode" "patientClass" "Ljava/lang/String;" .null := D313 (Or.inr (hw _ (own_w 57 rfl))) (ty := (.object "java/lang/String")) (by decide)
  have fd322 : Fld Z h313 b313 "com/example/refertario/refertario/store/Episode" "pointOfCare" "Ljava/lang/String;" .null := D313 (Or.inr (hw _ (own_w 59 rfl))) (ty := (.object "java/lang/String")) (by decide)
  have fd323 : Fld Z h313 b313 "com/example/refertario/refertario/store/Episode" "admitted" "Ljava/lang/String;" .null := D313 (Or.inr (hw _ (own_w 61 rfl))) (ty := (.object "java/lang/String")) (by decide)
  have fd324 : Fld Z h313 b313 "com/example/refertario/refertario/store/Episode" "discharged" "Ljava/lang/String;" .null := D313 (Or.inr (hw _ (own_w 63 rfl))) (ty := (.object "java/lang/String")) (by decide)
  have fd325 : Fld Z h313 b313 "com/example/refertario/refertario/store/Episode" "status" "Lcom/example/refertario/refertario/store/Episode$Status;" .null := D313 (Or.inr (hw _ (own_w 65 rfl))) (ty := (.object "com/example/refertario/refertario/store/Episode$Status")) (by decide)
  have pre326 : own_Go p e below S0 (T313.setTop (mkF m 284 #[.val (.int p1), .val (.int p2), .val (.int p3), .val (.int p4), .val (.int p5), .val (.int p6), .val x6, .val x7, .val x8, .val x9, .val (.ref b73), .val x66, .val x85, .val x105, .val (.ref (own_st p6 wOPEN wCLOSED wCANCELLED)), .val x15, .val x16, .val x17, .val x18, .val (.ref b216), .val x182, .val x202, .val x223, .val (.ref (own_st ((p6.toUInt32 >>> ((8 : Int32) &&& 31).toUInt32).toInt32) wOPEN wCLOSED wCANCELLED)), .val (.ref b287), .unset, .unset, .unset, .unset, .unset] [(.ref (own_st ((p6.toUInt32 >>> ((8 : Int32) &&& 31).toUInt32).toInt32) wOPEN wCLOSED wCANCELLED)), x223, x202, x182, (.ref b216), x18, x17, x16, x15, (.ref b313), (.ref b313)])) := by
    intro t kt
    refine pre312 t ?_
    refine st313 _ ?_
    show Steps p.tables e below (T313.setTop (mkF m 265 #[.val (.int p1), .val (.int p2), .val (.int p3), .val (.int p4), .val (.int p5), .val (.int p6), .val x6, .val x7, .val x8, .val x9, .val (.ref b73), .val x66, .val x85, .val x105, .val (.ref (own_st p6 wOPEN wCLOSED wCANCELLED)), .val x15, .val x16, .val x17, .val x18, .val (.ref b216), .val x182, .val x202, .val x223, .val (.ref (own_st ((p6.toUInt32 >>> ((8 : Int32) &&& 31).toUInt32).toInt32) wOPEN wCLOSED wCANCELLED)), .val (.ref b287), .unset, .unset, .unset, .unset, .unset] [(.ref b313)])) _
    refine XS.dup X313.here hx rfl (hb hby at_265) rfl rfl ?_
    show Steps p.tables e below (T313.setTop (mkF m 266 #[.val (.int p1), .val (.int p2), .val (.int p3), .val (.int p4), .val (.int p5), .val (.int p6), .val x6, .val x7, .val x8, .val x9, .val (.ref b73), .val x66, .val x85, .val x105, .val (.ref (own_st p6 wOPEN wCLOSED wCANCELLED)), .val x15, .val x16, .val x17, .val x18, .val (.ref b216), .val x182, .val x202, .val x223, .val (.ref (own_st ((p6.toUInt32 >>> ((8 : Int32) &&& 31).toUInt32).toInt32) wOPEN wCLOSED wCANCELLED)), .val (.ref b287), .unset, .unset, .unset, .unset, .unset] [(.ref b313), (.ref b313)])) _
    refine XS.aload X313.here hx rfl (hb hby at_266) rfl pj204 ?_
    show Steps p.tables e below (T313.setTop (mkF m 268 #[.val (.int p1), .val (.int p2), .val (.int p3), .val (.int p4), .val (.int p5), .val (.int p6), .val x6, .val x7, .val x8, .val x9, .val (.ref b73), .val x66, .val x85, .val x105, .val (.ref (own_st p6 wOPEN wCLOSED wCANCELLED)), .val x15, .val x16, .val x17, .val x18, .val (.ref b216), .val x182, .val x202, .val x223, .val (.ref (own_st ((p6.toUInt32 >>> ((8 : Int32) &&& 31).toUInt32).toInt32) wOPEN wCLOSED wCANCELLED)), .val (.ref b287), .unset, .unset, .unset, .unset, .unset] [x15, (.ref b313), (.ref b313)])) _
    refine XS.aload X313.here hx rfl (hb hby at_268) rfl pj205 ?_
    show Steps p.tables e below (T313.setTop (mkF m 270 #[.val (.int p1), .val (.int p2), .val (.int p3), .val (.int p4), .val (.int p5), .val (.int p6), .val x6, .val x7, .val x8, .val x9, .val (.ref b73), .val x66, .val x85, .val x105, .val (.ref (own_st p6 wOPEN wCLOSED wCANCELLED)), .val x15, .val x16, .val x17, .val x18, .val (.ref b216), .val x182, .val x202, .val x223, .val (.ref (own_st ((p6.toUInt32 >>> ((8 : Int32) &&& 31).toUInt32).toInt32) wOPEN wCLOSED wCANCELLED)), .val (.ref b287), .unset, .unset, .unset, .unset, .unset] [x16, x15, (.ref b313), (.ref b313)])) _
    refine XS.aload X313.here hx rfl (hb hby at_270) rfl pj206 ?_
    show Steps p.tables e below (T313.setTop (mkF m 272 #[.val (.int p1), .val (.int p2), .val (.int p3), .val (.int p4), .val (.int p5), .val (.int p6), .val x6, .val x7, .val x8, .val x9, .val (.ref b73), .val x66, .val x85, .val x105, .val (.ref (own_st p6 wOPEN wCLOSED wCANCELLED)), .val x15, .val x16, .val x17, .val x18, .val (.ref b216), .val x182, .val x202, .val x223, .val (.ref (own_st ((p6.toUInt32 >>> ((8 : Int32) &&& 31).toUInt32).toInt32) wOPEN wCLOSED wCANCELLED)), .val (.ref b287), .unset, .unset, .unset, .unset, .unset] [x17, x16, x15, (.ref b313), (.ref b313)])) _
    refine XS.aload X313.here hx rfl (hb hby at_272) rfl pj207 ?_
    show Steps p.tables e below (T313.setTop (mkF m 274 #[.val (.int p1), .val (.int p2), .val (.int p3), .val (.int p4), .val (.int p5), .val (.int p6), .val x6, .val x7, .val x8, .val x9, .val (.ref b73), .val x66, .val x85, .val x105, .val (.ref (own_st p6 wOPEN wCLOSED wCANCELLED)), .val x15, .val x16, .val x17, .val x18, .val (.ref b216), .val x182, .val x202, .val x223, .val (.ref (own_st ((p6.toUInt32 >>> ((8 : Int32) &&& 31).toUInt32).toInt32) wOPEN wCLOSED wCANCELLED)), .val (.ref b287), .unset, .unset, .unset, .unset, .unset] [x18, x17, x16, x15, (.ref b313), (.ref b313)])) _
    refine XS.aload X313.here hx rfl (hb hby at_274) rfl rfl ?_
    show Steps p.tables e below (T313.setTop (mkF m 276 #[.val (.int p1), .val (.int p2), .val (.int p3), .val (.int p4), .val (.int p5), .val (.int p6), .val x6, .val x7, .val x8, .val x9, .val (.ref b73), .val x66, .val x85, .val x105, .val (.ref (own_st p6 wOPEN wCLOSED wCANCELLED)), .val x15, .val x16, .val x17, .val x18, .val (.ref b216), .val x182, .val x202, .val x223, .val (.ref (own_st ((p6.toUInt32 >>> ((8 : Int32) &&& 31).toUInt32).toInt32) wOPEN wCLOSED wCANCELLED)), .val (.ref b287), .unset, .unset, .unset, .unset, .unset] [(.ref b216), x18, x17, x16, x15, (.ref b313), (.ref b313)])) _
    refine XS.aload X313.here hx rfl (hb hby at_276) rfl pj239 ?_
    show Steps p.tables e below (T313.setTop (mkF m 278 #[.val (.int p1), .val (.int p2), .val (.int p3), .val (.int p4), .val (.int p5), .val (.int p6), .val x6, .val x7, .val x8, .val x9, .val (.ref b73), .val x66, .val x85, .val x105, .val (.ref (own_st p6 wOPEN wCLOSED wCANCELLED)), .val x15, .val x16, .val x17, .val x18, .val (.ref b216), .val x182, .val x202, .val x223, .val (.ref (own_st ((p6.toUInt32 >>> ((8 : Int32) &&& 31).toUInt32).toInt32) wOPEN wCLOSED wCANCELLED)), .val (.ref b287), .unset, .unset, .unset, .unset, .unset] [x182, (.ref b216), x18, x17, x16, x15, (.ref b313), (.ref b313)])) _
    refine XS.aload X313.here hx rfl (hb hby at_278) rfl pj259 ?_
    show Steps p.tables e below (T313.setTop (mkF m 280 #[.val (.int p1), .val (.int p2), .val (.int p3), .val (.int p4), .val (.int p5), .val (.int p6), .val x6, .val x7, .val x8, .val x9, .val (.ref b73), .val x66, .val x85, .val x105, .val (.ref (own_st p6 wOPEN wCLOSED wCANCELLED)), .val x15, .val x16, .val x17, .val x18, .val (.ref b216), .val x182, .val x202, .val x223, .val (.ref (own_st ((p6.toUInt32 >>> ((8 : Int32) &&& 31).toUInt32).toInt32) wOPEN wCLOSED wCANCELLED)), .val (.ref b287), .unset, .unset, .unset, .unset, .unset] [x202, x182, (.ref b216), x18, x17, x16, x15, (.ref b313), (.ref b313)])) _
    refine XS.aload X313.here hx rfl (hb hby at_280) rfl pj279 ?_
    show Steps p.tables e below (T313.setTop (mkF m 282 #[.val (.int p1), .val (.int p2), .val (.int p3), .val (.int p4), .val (.int p5), .val (.int p6), .val x6, .val x7, .val x8, .val x9, .val (.ref b73), .val x66, .val x85, .val x105, .val (.ref (own_st p6 wOPEN wCLOSED wCANCELLED)), .val x15, .val x16, .val x17, .val x18, .val (.ref b216), .val x182, .val x202, .val x223, .val (.ref (own_st ((p6.toUInt32 >>> ((8 : Int32) &&& 31).toUInt32).toInt32) wOPEN wCLOSED wCANCELLED)), .val (.ref b287), .unset, .unset, .unset, .unset, .unset] [x223, x202, x182, (.ref b216), x18, x17, x16, x15, (.ref b313), (.ref b313)])) _
    refine XS.aload X313.here hx rfl (hb hby at_282) rfl rfl ?_
    show Steps p.tables e below (T313.setTop (mkF m 284 #[.val (.int p1), .val (.int p2), .val (.int p3), .val (.int p4), .val (.int p5), .val (.int p6), .val x6, .val x7, .val x8, .val x9, .val (.ref b73), .val x66, .val x85, .val x105, .val (.ref (own_st p6 wOPEN wCLOSED wCANCELLED)), .val x15, .val x16, .val x17, .val x18, .val (.ref b216), .val x182, .val x202, .val x223, .val (.ref (own_st ((p6.toUInt32 >>> ((8 : Int32) &&& 31).toUInt32).toInt32) wOPEN wCLOSED wCANCELLED)), .val (.ref b287), .unset, .unset, .unset, .unset, .unset] [(.ref (own_st ((p6.toUInt32 >>> ((8 : Int32) &&& 31).toUInt32).toInt32) wOPEN wCLOSED wCANCELLED)), x223, x202, x182, (.ref b216), x18, x17, x16, x15, (.ref b313), (.ref b313)])) _
    exact kt
  obtain ⟨_, _, ⟨T327, L327, k327, n327⟩, -, X327, ⟨Lc327, hQ327, l327, y327, z327⟩, st327⟩ := X313.specialBack hx (y := (⟨"com/example/refertario/refertario/store/Episode", "<init>", "(Ljava/lang/String;Ljava/lang/String;Ljava/lang/String;Ljava/lang/String;Ljava/lang/String;Ljava/lang/String;Ljava/lang/String;Ljava/lang/String;Lcom/example/refertario/refertario/store/Episode$Status;)V"⟩ : MethodName)) rfl hown (mvT hZ (hw _ (own_w 39 rfl))) (mvT hZ (hw _ (own_w 40 rfl))) (mvT hZ (hw _ (own_w 41 rfl))) (by decide) (backOf (W := 1) (rm8 l Z a0 hw [] b313 x15 x16 x17 x18 (.ref b216) x182 x202 x223 (.ref (own_st ((p6.toUInt32 >>> ((8 : Int32) &&& 31).toUInt32).toInt32) wOPEN wCLOSED wCANCELLED)) h313 n0 zs316 pj204 pj205 pj206 pj207 rfl pj239 pj259 pj279 rfl A313 ge315 fd317 fd318 fd319 fd320 fd321 fd322 fd323 fd324 fd325) hZ (hw _ (own_w 41 rfl)) (hw _ (own_w 38 rfl)) (by decide) (by decide)) (g := (mkF m 284 #[.val (.int p1), .val (.int p2), .val (.int p3), .val (.int p4), .val (.int p5), .val (.int p6), .val x6, .val x7, .val x8, .val x9, .val (.ref b73), .val x66, .val x85, .val x105, .val (.ref (own_st p6 wOPEN wCLOSED wCANCELLED)), .val x15, .val x16, .val x17, .val x18, .val (.ref b216), .val x182, .val x202, .val x223, .val (.ref (own_st ((p6.toUInt32 >>> ((8 : Int32) &&& 31).toUInt32).toInt32) wOPEN wCLOSED wCANCELLED)), .val (.ref b287), .unset, .unset, .unset, .unset, .unset] [(.ref (own_st ((p6.toUInt32 >>> ((8 : Int32) &&& 31).toUInt32).toInt32) wOPEN wCLOSED wCANCELLED)), x223, x202, x182, (.ref b216), x18, x17, x16, x15, (.ref b313), (.ref b313)])) rfl (by rw [hml]; rfl) (Steps.refl _) (a := b313) (argsL := [x15, x16, x17, x18, (.ref b216), x182, x202, x223, (.ref (own_st ((p6.toUInt32 >>> ((8 : Int32) &&& 31).toUInt32).toInt32) wOPEN wCLOSED wCANCELLED))]) (rest := [(.ref b313)]) (lenOf pd_5 rfl) rfl (by show 2 * 0 + _ ≤ _; exact Nat.le_of_eq rfl) (hb hby at_284) (fun _ _ => ⟨rfl, e313, (by decide : 34 + 0 ≤ _), (by decide : 98 + 0 ≤ _)⟩)
  dsimp only [Pt.U, Pt.locs, Pt.cells, Pt.slots] at X327 l327 y327 z327 st327 hQ327
  subst l327 y327 z327
  obtain ⟨rfl, Nq327, K327, g328, g329, g330, g331, g332, g333, g334, g335, g336, g337⟩ := hQ327
  have N327 := Fr.app N300 Nq327
  have zs338 : n0 ≤ T327.heap.size := Nat.le_trans zs316 K327.1
  have pre339 : own_Go p e below S0 (T327.setTop (mkF m 293 #[.val (.int p1), .val (.int p2), .val (.int p3), .val (.int p4), .val (.int p5), .val (.int p6), .val x6, .val x7, .val x8, .val x9, .val (.ref b73), .val x66, .val x85, .val x105, .val (.ref (own_st p6 wOPEN wCLOSED wCANCELLED)), .val x15, .val x16, .val x17, .val x18, .val (.ref b216), .val x182, .val x202, .val x223, .val (.ref (own_st ((p6.toUInt32 >>> ((8 : Int32) &&& 31).toUInt32).toInt32) wOPEN wCLOSED wCANCELLED)), .val (.ref b287), .val (.ref b313), .unset, .unset, .unset, .unset] [(.ref b313), (.ref b287)])) := by
    intro t kt
    refine pre326 t ?_
    refine st327.trans ?_
    show Steps p.tables e below (T327.setTop (mkF m 287 #[.val (.int p1), .val (.int p2), .val (.int p3), .val (.int p4), .val (.int p5), .val (.int p6), .val x6, .val x7, .val x8, .val x9, .val (.ref b73), .val x66, .val x85, .val x105, .val (.ref (own_st p6 wOPEN wCLOSED wCANCELLED)), .val x15, .val x16, .val x17, .val x18, .val (.ref b216), .val x182, .val x202, .val x223, .val (.ref (own_st ((p6.toUInt32 >>> ((8 : Int32) &&& 31).toUInt32).toInt32) wOPEN wCLOSED wCANCELLED)), .val (.ref b287), .unset, .unset, .unset, .unset, .unset] [(.ref b313)])) _
    refine XS.astore X327.here hx rfl (hb hby at_287) rfl rfl (l' := #[.val (.int p1), .val (.int p2), .val (.int p3), .val (.int p4), .val (.int p5), .val (.int p6), .val x6, .val x7, .val x8, .val x9, .val (.ref b73), .val x66, .val x85, .val x105, .val (.ref (own_st p6 wOPEN wCLOSED wCANCELLED)), .val x15, .val x16, .val x17, .val x18, .val (.ref b216), .val x182, .val x202, .val x223, .val (.ref (own_st ((p6.toUInt32 >>> ((8 : Int32) &&& 31).toUInt32).toInt32) wOPEN wCLOSED wCANCELLED)), .val (.ref b287), .val (.ref b313), .unset, .unset, .unset, .unset]) rfl ?_
    show Steps p.tables e below (T327.setTop (mkF m 289 #[.val (.int p1), .val (.int p2), .val (.int p3), .val (.int p4), .val (.int p5), .val (.int p6), .val x6, .val x7, .val x8, .val x9, .val (.ref b73), .val x66, .val x85, .val x105, .val (.ref (own_st p6 wOPEN wCLOSED wCANCELLED)), .val x15, .val x16, .val x17, .val x18, .val (.ref b216), .val x182, .val x202, .val x223, .val (.ref (own_st ((p6.toUInt32 >>> ((8 : Int32) &&& 31).toUInt32).toInt32) wOPEN wCLOSED wCANCELLED)), .val (.ref b287), .val (.ref b313), .unset, .unset, .unset, .unset] [])) _
    refine XS.aload X327.here hx rfl (hb hby at_289) rfl rfl ?_
    show Steps p.tables e below (T327.setTop (mkF m 291 #[.val (.int p1), .val (.int p2), .val (.int p3), .val (.int p4), .val (.int p5), .val (.int p6), .val x6, .val x7, .val x8, .val x9, .val (.ref b73), .val x66, .val x85, .val x105, .val (.ref (own_st p6 wOPEN wCLOSED wCANCELLED)), .val x15, .val x16, .val x17, .val x18, .val (.ref b216), .val x182, .val x202, .val x223, .val (.ref (own_st ((p6.toUInt32 >>> ((8 : Int32) &&& 31).toUInt32).toInt32) wOPEN wCLOSED wCANCELLED)), .val (.ref b287), .val (.ref b313), .unset, .unset, .unset, .unset] [(.ref b287)])) _
    refine XS.aload X327.here hx rfl (hb hby at_291) rfl rfl ?_
    show Steps p.tables e below (T327.setTop (mkF m 293 #[.val (.int p1), .val (.int p2), .val (.int p3), .val (.int p4), .val (.int p5), .val (.int p6), .val x6, .val x7, .val x8, .val x9, .val (.ref b73), .val x66, .val x85, .val x105, .val (.ref (own_st p6 wOPEN wCLOSED wCANCELLED)), .val x15, .val x16, .val x17, .val x18, .val (.ref b216), .val x182, .val x202, .val x223, .val (.ref (own_st ((p6.toUInt32 >>> ((8 : Int32) &&& 31).toUInt32).toInt32) wOPEN wCLOSED wCANCELLED)), .val (.ref b287), .val (.ref b313), .unset, .unset, .unset, .unset] [(.ref b313), (.ref b287)])) _
    exact kt
  have f340 : Exa Z T327.heap b287 "com/example/refertario/refertario/store/Episode" := ((g301.ext E313).keep K327)
  have f341 : Fld Z T327.heap b287 "com/example/refertario/refertario/store/Episode" "application" "Ljava/lang/String;" x6 := ((g302.ext E313).keep K327 (ninS ne314 nin0))
  have f342 : Fld Z T327.heap b287 "com/example/refertario/refertario/store/Episode" "id" "Ljava/lang/String;" x7 := ((g303.ext E313).keep K327 (ninS ne314 nin0))
  have f343 : Fld Z T327.heap b287 "com/example/refertario/refertario/store/Episode" "idType" "Ljava/lang/String;" x8 := ((g304.ext E313).keep K327 (ninS ne314 nin0))
  have f344 : Fld Z T327.heap b287 "com/example/refertario/refertario/store/Episode" "patient" "Ljava/lang/String;" x9 := ((g305.ext E313).keep K327 (ninS ne314 nin0))
  have f345 : Fld Z T327.heap b287 "com/example/refertario/refertario/store/Episode" "patientClass" "Ljava/lang/String;" (.ref b73) := ((g306.ext E313).keep K327 (ninS ne314 nin0))
  have f346 : Fld Z T327.heap b287 "com/example/refertario/refertario/store/Episode" "pointOfCare" "Ljava/lang/String;" x66 := ((g307.ext E313).keep K327 (ninS ne314 nin0))
  have f347 : Fld Z T327.heap b287 "com/example/refertario/refertario/store/Episode" "admitted" "Ljava/lang/String;" x85 := ((g308.ext E313).keep K327 (ninS ne314 nin0))
  have f348 : Fld Z T327.heap b287 "com/example/refertario/refertario/store/Episode" "discharged" "Ljava/lang/String;" x105 := ((g309.ext E313).keep K327 (ninS ne314 nin0))
  have f349 : Fld Z T327.heap b287 "com/example/refertario/refertario/store/Episode" "status" "Lcom/example/refertario/refertario/store/Episode$Status;" (.ref (own_st p6 wOPEN wCLOSED wCANCELLED)) := ((g310.ext E313).keep K327 (ninS ne314 nin0))
  obtain ⟨cq350, kq350, qa350, qb350, qc350⟩ := isOf hZ rfl f340
  obtain ⟨_, _, ⟨T350, L350, k350, n350⟩, -, X350, ⟨Lc350, hQ350, l350, y350, z350⟩, st350⟩ := X327.virtualBack hx (y := (⟨"com/example/refertario/refertario/store/Episode", "admittedAs", "(Lcom/example/refertario/refertario/store/Episode;)Lcom/example/refertario/refertario/store/Episode;"⟩ : MethodName)) (z := (⟨"com/example/refertario/refertario/store/Episode", "admittedAs", "(Lcom/example/refertario/refertario/store/Episode;)Lcom/example/refertario/refertario/store/Episode;"⟩ : MethodName)) hown (mvT hZ (hw _ (own_w 66 rfl))) (mvT hZ (hw _ (own_w 67 rfl))) (notFace_of_selects (args := #[]) (mvT hZ (hw _ (own_w 69 rfl)))) (mvT hZ (hw _ (own_w 69 rfl))) (mvT hZ (hw _ (own_w 68 rfl))) (by decide) (backOf (W := 0) (rm10 l Z a0 hw [] b287 b313 x6 x7 x8 x9 (.ref b73) x66 x85 x105 (.ref (own_st p6 wOPEN wCLOSED wCANCELLED)) x15 x16 x17 x18 (.ref b216) x182 x202 x223 (.ref (own_st ((p6.toUInt32 >>> ((8 : Int32) &&& 31).toUInt32).toInt32) wOPEN wCLOSED wCANCELLED)) T327.heap n0 zs338 pj61 pj62 pj63 pj64 rfl pj96 pj116 pj136 rfl pj204 pj205 pj206 pj207 rfl pj239 pj259 pj279 rfl f340 f341 f342 f343 f344 f345 f346 f347 f348 f349 g329 g330 g331 g332 g333 g334 g335 g336 g337) hZ (hw _ (own_w 70 rfl)) (hw _ (own_w 38 rfl)) (by decide) (by decide)) qa350 qc350 (g := (mkF m 293 #[.val (.int p1), .val (.int p2), .val (.int p3), .val (.int p4), .val (.int p5), .val (.int p6), .val x6, .val x7, .val x8, .val x9, .val (.ref b73), .val x66, .val x85, .val x105, .val (.ref (own_st p6 wOPEN wCLOSED wCANCELLED)), .val x15, .val x16, .val x17, .val x18, .val (.ref b216), .val x182, .val x202, .val x223, .val (.ref (own_st ((p6.toUInt32 >>> ((8 : Int32) &&& 31).toUInt32).toInt32) wOPEN wCLOSED wCANCELLED)), .val (.ref b287), .val (.ref b313), .unset, .unset, .unset, .unset] [(.ref b313), (.ref b287)])) rfl (by rw [hml]; rfl) (Steps.refl _) (argsL := [(.ref b313)]) (rest := []) (lenOf pd_11 rfl) rfl (by show 2 * 0 + _ ≤ _; exact Nat.le_of_eq rfl) (hb hby at_293) (fun _ _ => ⟨rfl, rfl, (by decide : 34 + 1 ≤ _), (by decide : 98 + 9 ≤ _)⟩)
  dsimp only [Pt.U, Pt.locs, Pt.cells, Pt.slots] at X350 l350 y350 z350 st350 hQ350
  subst l350 y350 z350
  obtain ⟨b351, rfl, Nq350, K350, g352, g353, g354, g355, g356, g357, g358, g359, g360, g361, g362⟩ := hQ350
  have N350 := Fr.app N327 Nq350
  have ne363 : b287 ≠ b351 := Nat.ne_of_lt (Nat.lt_of_lt_of_le f340.lt g352)
  have ne364 : b313 ≠ b351 := Nat.ne_of_lt (Nat.lt_of_lt_of_le g328.lt g352)
  have ge365 : n0 ≤ b351 := Nat.le_trans zs338 g352
  have zs366 : n0 ≤ T350.heap.size := Nat.le_trans zs338 K350.1
  have pre367 : own_Go p e below S0 (T350.setTop (mkF m 305 #[.val (.int p1), .val (.int p2), .val (.int p3), .val (.int p4), .val (.int p5), .val (.int p6), .val x6, .val x7, .val x8, .val x9, .val (.ref b73), .val x66, .val x85, .val x105, .val (.ref (own_st p6 wOPEN wCLOSED wCANCELLED)), .val x15, .val x16, .val x17, .val x18, .val (.ref b216), .val x182, .val x202, .val x223, .val (.ref (own_st ((p6.toUInt32 >>> ((8 : Int32) &&& 31).toUInt32).toInt32) wOPEN wCLOSED wCANCELLED)), .val (.ref b287), .val (.ref b313), .val (.ref b351), .unset, .unset, .unset] [])) := by
    intro t kt
    refine pre339 t ?_
    refine st350.trans ?_
    show Steps p.tables e below (T350.setTop (mkF m 296 #[.val (.int p1), .val (.int p2), .val (.int p3), .val (.int p4), .val (.int p5), .val (.int p6), .val x6, .val x7, .val x8, .val x9, .val (.ref b73), .val x66, .val x85, .val x105, .val (.ref (own_st p6 wOPEN wCLOSED wCANCELLED)), .val x15, .val x16, .val x17, .val x18, .val (.ref b216), .val x182, .val x202, .val x223, .val (.ref (own_st ((p6.toUInt32 >>> ((8 : Int32) &&& 31).toUInt32).toInt32) wOPEN wCLOSED wCANCELLED)), .val (.ref b287), .val (.ref b313), .unset, .unset, .unset, .unset] [(.ref b351)])) _
    refine XS.astore X350.here hx rfl (hb hby at_296) rfl rfl (l' := #[.val (.int p1), .val (.int p2), .val (.int p3), .val (.int p4), .val (.int p5), .val (.int p6), .val x6, .val x7, .val x8, .val x9, .val (.ref b73), .val x66, .val x85, .val x105, .val (.ref (own_st p6 wOPEN wCLOSED wCANCELLED)), .val x15, .val x16, .val x17, .val x18, .val (.ref b216), .val x182, .val x202, .val x223, .val (.ref (own_st ((p6.toUInt32 >>> ((8 : Int32) &&& 31).toUInt32).toInt32) wOPEN wCLOSED wCANCELLED)), .val (.ref b287), .val (.ref b313), .val (.ref b351), .unset, .unset, .unset]) rfl ?_
    show Steps p.tables e below (T350.setTop (mkF m 298 #[.val (.int p1), .val (.int p2), .val (.int p3), .val (.int p4), .val (.int p5), .val (.int p6), .val x6, .val x7, .val x8, .val x9, .val (.ref b73), .val x66, .val x85, .val x105, .val (.ref (own_st p6 wOPEN wCLOSED wCANCELLED)), .val x15, .val x16, .val x17, .val x18, .val (.ref b216), .val x182, .val x202, .val x223, .val (.ref (own_st ((p6.toUInt32 >>> ((8 : Int32) &&& 31).toUInt32).toInt32) wOPEN wCLOSED wCANCELLED)), .val (.ref b287), .val (.ref b313), .val (.ref b351), .unset, .unset, .unset] [])) _
    refine XS.aload X350.here hx rfl (hb hby at_298) rfl rfl ?_
    show Steps p.tables e below (T350.setTop (mkF m 300 #[.val (.int p1), .val (.int p2), .val (.int p3), .val (.int p4), .val (.int p5), .val (.int p6), .val x6, .val x7, .val x8, .val x9, .val (.ref b73), .val x66, .val x85, .val x105, .val (.ref (own_st p6 wOPEN wCLOSED wCANCELLED)), .val x15, .val x16, .val x17, .val x18, .val (.ref b216), .val x182, .val x202, .val x223, .val (.ref (own_st ((p6.toUInt32 >>> ((8 : Int32) &&& 31).toUInt32).toInt32) wOPEN wCLOSED wCANCELLED)), .val (.ref b287), .val (.ref b313), .val (.ref b351), .unset, .unset, .unset] [(.ref b351)])) _
    refine XS.ifnonnullYes X350.here hx rfl (pc0 := 300) (pc' := 305) rfl (hb hby at_300) rfl (by decide) (by decide) ?_
    show Steps p.tables e below (T350.setTop (mkF m 305 #[.val (.int p1), .val (.int p2), .val (.int p3), .val (.int p4), .val (.int p5), .val (.int p6), .val x6, .val x7, .val x8, .val x9, .val (.ref b73), .val x66, .val x85, .val x105, .val (.ref (own_st p6 wOPEN wCLOSED wCANCELLED)), .val x15, .val x16, .val x17, .val x18, .val (.ref b216), .val x182, .val x202, .val x223, .val (.ref (own_st ((p6.toUInt32 >>> ((8 : Int32) &&& 31).toUInt32).toInt32) wOPEN wCLOSED wCANCELLED)), .val (.ref b287), .val (.ref b313), .val (.ref b351), .unset, .unset, .unset] [])) _
    exact kt
  obtain ⟨Tj368, lj368, Xj368, Nj368, ej368, prej368⟩ : ∃ (Tj368 : State) (lj368 : List Loc), Stand p l e room_1 s m #[(.int p1), (.int p2), (.int p3), (.int p4), (.int p5), (.int p6)] below meth c Tj368 lj368 35 107 ∧ Fr n0 lj368 ∧ Tj368.heap = T350.heap ∧ own_Go p e below S0 (Tj368.setTop (mkF m 317 #[.val (.int p1), .val (.int p2), .val (.int p3), .val (.int p4), .val (.int p5), .val (.int p6), .val x6, .val x7, .val x8, .val x9, .val (.ref b73), .val x66, .val x85, .val x105, .val (.ref (own_st p6 wOPEN wCLOSED wCANCELLED)), .val x15, .val x16, .val x17, .val x18, .val (.ref b216), .val x182, .val x202, .val x223, .val (.ref (own_st ((p6.toUInt32 >>> ((8 : Int32) &&& 31).toUInt32).toInt32) wOPEN wCLOSED wCANCELLED)), .val (.ref b287), .val (.ref b313), .val (.ref b351), .unset, .unset, .unset] [(own_given x17 x8)])) := by
    have pre371 : own_Go p e below S0 (T350.setTop (mkF m 307 #[.val (.int p1), .val (.int p2), .val (.int p3), .val (.int p4), .val (.int p5), .val (.int p6), .val x6, .val x7, .val x8, .val x9, .val (.ref b73), .val x66, .val x85, .val x105, .val (.ref (own_st p6 wOPEN wCLOSED wCANCELLED)), .val x15, .val x16, .val x17, .val x18, .val (.ref b216), .val x182, .val x202, .val x223, .val (.ref (own_st ((p6.toUInt32 >>> ((8 : Int32) &&& 31).toUInt32).toInt32) wOPEN wCLOSED wCANCELLED)), .val (.ref b287), .val (.ref b313), .val (.ref b351), .unset, .unset, .unset] [x17])) := by
      intro t kt
      refine pre367 t ?_
      refine XS.aload X350.here hx rfl (hb hby at_305) rfl pj206 ?_
      show Steps p.tables e below (T350.setTop (mkF m 307 #[.val (.int p1), .val (.int p2), .val (.int p3), .val (.int p4), .val (.int p5), .val (.int p6), .val x6, .val x7, .val x8, .val x9, .val (.ref b73), .val x66, .val x85, .val x105, .val (.ref (own_st p6 wOPEN wCLOSED wCANCELLED)), .val x15, .val x16, .val x17, .val x18, .val (.ref b216), .val x182, .val x202, .val x223, .val (.ref (own_st ((p6.toUInt32 >>> ((8 : Int32) &&& 31).toUInt32).toInt32) wOPEN wCLOSED wCANCELLED)), .val (.ref b287), .val (.ref b313), .val (.ref b351), .unset, .unset, .unset] [x17])) _
      exact kt
    obtain hv369 | ⟨av370, hv369⟩ := ref_cases pj206
    · have pre372 : own_Go p e below S0 (T350.setTop (mkF m 307 #[.val (.int p1), .val (.int p2), .val (.int p3), .val (.int p4), .val (.int p5), .val (.int p6), .val x6, .val x7, .val x8, .val x9, .val (.ref b73), .val x66, .val x85, .val x105, .val (.ref (own_st p6 wOPEN wCLOSED wCANCELLED)), .val x15, .val x16, .val .null, .val x18, .val (.ref b216), .val x182, .val x202, .val x223, .val (.ref (own_st ((p6.toUInt32 >>> ((8 : Int32) &&& 31).toUInt32).toInt32) wOPEN wCLOSED wCANCELLED)), .val (.ref b287), .val (.ref b313), .val (.ref b351), .unset, .unset, .unset] [.null])) := by
        intro t kt
        refine pre371 t ?_
        exact castTop (by rw [hv369]) kt
      have pre373 : own_Go p e below S0 (T350.setTop (mkF m 317 #[.val (.int p1), .val (.int p2), .val (.int p3), .val (.int p4), .val (.int p5), .val (.int p6), .val x6, .val x7, .val x8, .val x9, .val (.ref b73), .val x66, .val x85, .val x105, .val (.ref (own_st p6 wOPEN wCLOSED wCANCELLED)), .val x15, .val x16, .val .null, .val x18, .val (.ref b216), .val x182, .val x202, .val x223, .val (.ref (own_st ((p6.toUInt32 >>> ((8 : Int32) &&& 31).toUInt32).toInt32) wOPEN wCLOSED wCANCELLED)), .val (.ref b287), .val (.ref b313), .val (.ref b351), .unset, .unset, .unset] [x8])) := by
        intro t kt
        refine pre372 t ?_
        refine XS.ifnullYes X350.here hx rfl (pc0 := 307) (pc' := 315) rfl (hb hby at_307) rfl (by decide) (by decide) ?_
        show Steps p.tables e below (T350.setTop (mkF m 315 #[.val (.int p1), .val (.int p2), .val (.int p3), .val (.int p4), .val (.int p5), .val (.int p6), .val x6, .val x7, .val x8, .val x9, .val (.ref b73), .val x66, .val x85, .val x105, .val (.ref (own_st p6 wOPEN wCLOSED wCANCELLED)), .val x15, .val x16, .val .null, .val x18, .val (.ref b216), .val x182, .val x202, .val x223, .val (.ref (own_st ((p6.toUInt32 >>> ((8 : Int32) &&& 31).toUInt32).toInt32) wOPEN wCLOSED wCANCELLED)), .val (.ref b287), .val (.ref b313), .val (.ref b351), .unset, .unset, .unset] [])) _
        refine XS.aload X350.here hx rfl (hb hby at_315) rfl pj63 ?_
        show Steps p.tables e below (T350.setTop (mkF m 317 #[.val (.int p1), .val (.int p2), .val (.int p3), .val (.int p4), .val (.int p5), .val (.int p6), .val x6, .val x7, .val x8, .val x9, .val (.ref b73), .val x66, .val x85, .val x105, .val (.ref (own_st p6 wOPEN wCLOSED wCANCELLED)), .val x15, .val x16, .val .null, .val x18, .val (.ref b216), .val x182, .val x202, .val x223, .val (.ref (own_st ((p6.toUInt32 >>> ((8 : Int32) &&& 31).toUInt32).toInt32) wOPEN wCLOSED wCANCELLED)), .val (.ref b287), .val (.ref b313), .val (.ref b351), .unset, .unset, .unset] [x8])) _
        exact kt
      have pre374 : own_Go p e below S0 (T350.setTop (mkF m 317 #[.val (.int p1), .val (.int p2), .val (.int p3), .val (.int p4), .val (.int p5), .val (.int p6), .val x6, .val x7, .val x8, .val x9, .val (.ref b73), .val x66, .val x85, .val x105, .val (.ref (own_st p6 wOPEN wCLOSED wCANCELLED)), .val x15, .val x16, .val x17, .val x18, .val (.ref b216), .val x182, .val x202, .val x223, .val (.ref (own_st ((p6.toUInt32 >>> ((8 : Int32) &&& 31).toUInt32).toInt32) wOPEN wCLOSED wCANCELLED)), .val (.ref b287), .val (.ref b313), .val (.ref b351), .unset, .unset, .unset] [(own_given x17 x8)])) := by
        intro t kt
        refine pre373 t ?_
        exact castTop (by rw [hv369]; rfl) kt
      exact ⟨T350, _, (Stand.mono X350 (by decide) (by decide)), N350, rfl, pre374⟩
    · have pre375 : own_Go p e below S0 (T350.setTop (mkF m 307 #[.val (.int p1), .val (.int p2), .val (.int p3), .val (.int p4), .val (.int p5), .val (.int p6), .val x6, .val x7, .val x8, .val x9, .val (.ref b73), .val x66, .val x85, .val x105, .val (.ref (own_st p6 wOPEN wCLOSED wCANCELLED)), .val x15, .val x16, .val (.ref av370), .val x18, .val (.ref b216), .val x182, .val x202, .val x223, .val (.ref (own_st ((p6.toUInt32 >>> ((8 : Int32) &&& 31).toUInt32).toInt32) wOPEN wCLOSED wCANCELLED)), .val (.ref b287), .val (.ref b313), .val (.ref b351), .unset, .unset, .unset] [(.ref av370)])) := by
        intro t kt
        refine pre371 t ?_
        exact castTop (by rw [hv369]) kt
      have pre376 : own_Go p e below S0 (T350.setTop (mkF m 317 #[.val (.int p1), .val (.int p2), .val (.int p3), .val (.int p4), .val (.int p5), .val (.int p6), .val x6, .val x7, .val x8, .val x9, .val (.ref b73), .val x66, .val x85, .val x105, .val (.ref (own_st p6 wOPEN wCLOSED wCANCELLED)), .val x15, .val x16, .val (.ref av370), .val x18, .val (.ref b216), .val x182, .val x202, .val x223, .val (.ref (own_st ((p6.toUInt32 >>> ((8 : Int32) &&& 31).toUInt32).toInt32) wOPEN wCLOSED wCANCELLED)), .val (.ref b287), .val (.ref b313), .val (.ref b351), .unset, .unset, .unset] [(.ref av370)])) := by
        intro t kt
        refine pre375 t ?_
        refine XS.ifnullNo X350.here hx rfl (hb hby at_307) rfl ?_
        show Steps p.tables e below (T350.setTop (mkF m 310 #[.val (.int p1), .val (.int p2), .val (.int p3), .val (.int p4), .val (.int p5), .val (.int p6), .val x6, .val x7, .val x8, .val x9, .val (.ref b73), .val x66, .val x85, .val x105, .val (.ref (own_st p6 wOPEN wCLOSED wCANCELLED)), .val x15, .val x16, .val (.ref av370), .val x18, .val (.ref b216), .val x182, .val x202, .val x223, .val (.ref (own_st ((p6.toUInt32 >>> ((8 : Int32) &&& 31).toUInt32).toInt32) wOPEN wCLOSED wCANCELLED)), .val (.ref b287), .val (.ref b313), .val (.ref b351), .unset, .unset, .unset] [])) _
        refine XS.aload X350.here hx rfl (hb hby at_310) rfl rfl ?_
        show Steps p.tables e below (T350.setTop (mkF m 312 #[.val (.int p1), .val (.int p2), .val (.int p3), .val (.int p4), .val (.int p5), .val (.int p6), .val x6, .val x7, .val x8, .val x9, .val (.ref b73), .val x66, .val x85, .val x105, .val (.ref (own_st p6 wOPEN wCLOSED wCANCELLED)), .val x15, .val x16, .val (.ref av370), .val x18, .val (.ref b216), .val x182, .val x202, .val x223, .val (.ref (own_st ((p6.toUInt32 >>> ((8 : Int32) &&& 31).toUInt32).toInt32) wOPEN wCLOSED wCANCELLED)), .val (.ref b287), .val (.ref b313), .val (.ref b351), .unset, .unset, .unset] [(.ref av370)])) _
        refine XS.goto X350.here hx rfl (pc0 := 312) (pc' := 317) rfl (hb hby at_312) (by decide) (by decide) ?_
        show Steps p.tables e below (T350.setTop (mkF m 317 #[.val (.int p1), .val (.int p2), .val (.int p3), .val (.int p4), .val (.int p5), .val (.int p6), .val x6, .val x7, .val x8, .val x9, .val (.ref b73), .val x66, .val x85, .val x105, .val (.ref (own_st p6 wOPEN wCLOSED wCANCELLED)), .val x15, .val x16, .val (.ref av370), .val x18, .val (.ref b216), .val x182, .val x202, .val x223, .val (.ref (own_st ((p6.toUInt32 >>> ((8 : Int32) &&& 31).toUInt32).toInt32) wOPEN wCLOSED wCANCELLED)), .val (.ref b287), .val (.ref b313), .val (.ref b351), .unset, .unset, .unset] [(.ref av370)])) _
        exact kt
      have pre377 : own_Go p e below S0 (T350.setTop (mkF m 317 #[.val (.int p1), .val (.int p2), .val (.int p3), .val (.int p4), .val (.int p5), .val (.int p6), .val x6, .val x7, .val x8, .val x9, .val (.ref b73), .val x66, .val x85, .val x105, .val (.ref (own_st p6 wOPEN wCLOSED wCANCELLED)), .val x15, .val x16, .val x17, .val x18, .val (.ref b216), .val x182, .val x202, .val x223, .val (.ref (own_st ((p6.toUInt32 >>> ((8 : Int32) &&& 31).toUInt32).toInt32) wOPEN wCLOSED wCANCELLED)), .val (.ref b287), .val (.ref b313), .val (.ref b351), .unset, .unset, .unset] [(own_given x17 x8)])) := by
        intro t kt
        refine pre376 t ?_
        exact castTop (by rw [hv369]; rfl) kt
      exact ⟨T350, _, (Stand.mono X350 (by decide) (by decide)), N350, rfl, pre377⟩
  have f378 := (own_OR.keep (own_OR.keep (own_OR.keep qj210 K215 ) Kj223 ) Kj243 )
  have f379 := (own_OR.ext (own_OR.keep (own_OR.ext (own_OR.keep f378 Kj263 ) E287) K300 ) E313)
  have f380 : own_OR Z T350.heap x17  := (own_OR.keep (own_OR.keep f379 K327 ) K350 )
  have f381 := (own_OR.keep (own_OR.keep (own_OR.keep qj67 K72 ) Kj80 ) Kj100 )
  have f382 := (own_OR.keep (own_OR.keep (own_OR.keep (own_OR.keep f381 Kj120 ) Kj144 ) K215 ) Kj223 )
  have f383 := (own_OR.keep (own_OR.ext (own_OR.keep (own_OR.keep f382 Kj243 ) Kj263 ) E287) K300 )
  have f384 : own_OR Z T350.heap x8  := (own_OR.keep (own_OR.keep (own_OR.ext f383 E313) K327 ) K350 )
  have og317 : own_OR Z T350.heap (own_given x17 x8) := own_OR.given f380 f384
  have pre385 : own_Go p e below S0 (Tj368.setTop (mkF m 319 #[.val (.int p1), .val (.int p2), .val (.int p3), .val (.int p4), .val (.int p5), .val (.int p6), .val x6, .val x7, .val x8, .val x9, .val (.ref b73), .val x66, .val x85, .val x105, .val (.ref (own_st p6 wOPEN wCLOSED wCANCELLED)), .val x15, .val x16, .val x17, .val x18, .val (.ref b216), .val x182, .val x202, .val x223, .val (.ref (own_st ((p6.toUInt32 >>> ((8 : Int32) &&& 31).toUInt32).toInt32) wOPEN wCLOSED wCANCELLED)), .val (.ref b287), .val (.ref b313), .val (.ref b351), .val (own_given x17 x8), .unset, .unset] [])) := by
    intro t kt
    refine prej368 t ?_
    refine XS.astore Xj368.here hx rfl (hb hby at_317) rfl (own_givenR pj206 pj63) (l' := #[.val (.int p1), .val (.int p2), .val (.int p3), .val (.int p4), .val (.int p5), .val (.int p6), .val x6, .val x7, .val x8, .val x9, .val (.ref b73), .val x66, .val x85, .val x105, .val (.ref (own_st p6 wOPEN wCLOSED wCANCELLED)), .val x15, .val x16, .val x17, .val x18, .val (.ref b216), .val x182, .val x202, .val x223, .val (.ref (own_st ((p6.toUInt32 >>> ((8 : Int32) &&& 31).toUInt32).toInt32) wOPEN wCLOSED wCANCELLED)), .val (.ref b287), .val (.ref b313), .val (.ref b351), .val (own_given x17 x8), .unset, .unset]) (storeLocals_cat1 (x := .unset) rfl (own_cat (own_givenR pj206 pj63)) trivial) ?_
    show Steps p.tables e below (Tj368.setTop (mkF m 319 #[.val (.int p1), .val (.int p2), .val (.int p3), .val (.int p4), .val (.int p5), .val (.int p6), .val x6, .val x7, .val x8, .val x9, .val (.ref b73), .val x66, .val x85, .val x105, .val (.ref (own_st p6 wOPEN wCLOSED wCANCELLED)), .val x15, .val x16, .val x17, .val x18, .val (.ref b216), .val x182, .val x202, .val x223, .val (.ref (own_st ((p6.toUInt32 >>> ((8 : Int32) &&& 31).toUInt32).toInt32) wOPEN wCLOSED wCANCELLED)), .val (.ref b287), .val (.ref b313), .val (.ref b351), .val (own_given x17 x8), .unset, .unset] [])) _
    exact kt
  obtain ⟨Tj386, lj386, Xj386, Nj386, ej386, prej386⟩ : ∃ (Tj386 : State) (lj386 : List Loc), Stand p l e room_1 s m #[(.int p1), (.int p2), (.int p3), (.int p4), (.int p5), (.int p6)] below meth c Tj386 lj386 35 107 ∧ Fr n0 lj386 ∧ Tj386.heap = T350.heap ∧ own_Go p e below S0 (Tj386.setTop (mkF m 331 #[.val (.int p1), .val (.int p2), .val (.int p3), .val (.int p4), .val (.int p5), .val (.int p6), .val x6, .val x7, .val x8, .val x9, .val (.ref b73), .val x66, .val x85, .val x105, .val (.ref (own_st p6 wOPEN wCLOSED wCANCELLED)), .val x15, .val x16, .val x17, .val x18, .val (.ref b216), .val x182, .val x202, .val x223, .val (.ref (own_st ((p6.toUInt32 >>> ((8 : Int32) &&& 31).toUInt32).toInt32) wOPEN wCLOSED wCANCELLED)), .val (.ref b287), .val (.ref b313), .val (.ref b351), .val (own_given x17 x8), .unset, .unset] [(own_given x182 x66)])) := by
    have pre389 : own_Go p e below S0 (Tj368.setTop (mkF m 321 #[.val (.int p1), .val (.int p2), .val (.int p3), .val (.int p4), .val (.int p5), .val (.int p6), .val x6, .val x7, .val x8, .val x9, .val (.ref b73), .val x66, .val x85, .val x105, .val (.ref (own_st p6 wOPEN wCLOSED wCANCELLED)), .val x15, .val x16, .val x17, .val x18, .val (.ref b216), .val x182, .val x202, .val x223, .val (.ref (own_st ((p6.toUInt32 >>> ((8 : Int32) &&& 31).toUInt32).toInt32) wOPEN wCLOSED wCANCELLED)), .val (.ref b287), .val (.ref b313), .val (.ref b351), .val (own_given x17 x8), .unset, .unset] [x182])) := by
      intro t kt
      refine pre385 t ?_
      refine XS.aload Xj368.here hx rfl (hb hby at_319) rfl pj239 ?_
      show Steps p.tables e below (Tj368.setTop (mkF m 321 #[.val (.int p1), .val (.int p2), .val (.int p3), .val (.int p4), .val (.int p5), .val (.int p6), .val x6, .val x7, .val x8, .val x9, .val (.ref b73), .val x66, .val x85, .val x105, .val (.ref (own_st p6 wOPEN wCLOSED wCANCELLED)), .val x15, .val x16, .val x17, .val x18, .val (.ref b216), .val x182, .val x202, .val x223, .val (.ref (own_st ((p6.toUInt32 >>> ((8 : Int32) &&& 31).toUInt32).toInt32) wOPEN wCLOSED wCANCELLED)), .val (.ref b287), .val (.ref b313), .val (.ref b351), .val (own_given x17 x8), .unset, .unset] [x182])) _
      exact kt
    obtain hv387 | ⟨av388, hv387⟩ := ref_cases pj239
    · have pre390 : own_Go p e below S0 (Tj368.setTop (mkF m 321 #[.val (.int p1), .val (.int p2), .val (.int p3), .val (.int p4), .val (.int p5), .val (.int p6), .val x6, .val x7, .val x8, .val x9, .val (.ref b73), .val x66, .val x85, .val x105, .val (.ref (own_st p6 wOPEN wCLOSED wCANCELLED)), .val x15, .val x16, .val x17, .val x18, .val (.ref b216), .val .null, .val x202, .val x223, .val (.ref (own_st ((p6.toUInt32 >>> ((8 : Int32) &&& 31).toUInt32).toInt32) wOPEN wCLOSED wCANCELLED)), .val (.ref b287), .val (.ref b313), .val (.ref b351), .val (own_given x17 x8), .unset, .unset] [.null])) := by
        intro t kt
        refine pre389 t ?_
        exact castTop (by rw [hv387]) kt
      have pre391 : own_Go p e below S0 (Tj368.setTop (mkF m 331 #[.val (.int p1), .val (.int p2), .val (.int p3), .val (.int p4), .val (.int p5), .val (.int p6), .val x6, .val x7, .val x8, .val x9, .val (.ref b73), .val x66, .val x85, .val x105, .val (.ref (own_st p6 wOPEN wCLOSED wCANCELLED)), .val x15, .val x16, .val x17, .val x18, .val (.ref b216), .val .null, .val x202, .val x223, .val (.ref (own_st ((p6.toUInt32 >>> ((8 : Int32) &&& 31).toUInt32).toInt32) wOPEN wCLOSED wCANCELLED)), .val (.ref b287), .val (.ref b313), .val (.ref b351), .val (own_given x17 x8), .unset, .unset] [x66])) := by
        intro t kt
        refine pre390 t ?_
        refine XS.ifnullYes Xj368.here hx rfl (pc0 := 321) (pc' := 329) rfl (hb hby at_321) rfl (by decide) (by decide) ?_
        show Steps p.tables e below (Tj368.setTop (mkF m 329 #[.val (.int p1), .val (.int p2), .val (.int p3), .val (.int p4), .val (.int p5), .val (.int p6), .val x6, .val x7, .val x8, .val x9, .val (.ref b73), .val x66, .val x85, .val x105, .val (.ref (own_st p6 wOPEN wCLOSED wCANCELLED)), .val x15, .val x16, .val x17, .val x18, .val (.ref b216), .val .null, .val x202, .val x223, .val (.ref (own_st ((p6.toUInt32 >>> ((8 : Int32) &&& 31).toUInt32).toInt32) wOPEN wCLOSED wCANCELLED)), .val (.ref b287), .val (.ref b313), .val (.ref b351), .val (own_given x17 x8), .unset, .unset] [])) _
        refine XS.aload Xj368.here hx rfl (hb hby at_329) rfl pj96 ?_
        show Steps p.tables e below (Tj368.setTop (mkF m 331 #[.val (.int p1), .val (.int p2), .val (.int p3), .val (.int p4), .val (.int p5), .val (.int p6), .val x6, .val x7, .val x8, .val x9, .val (.ref b73), .val x66, .val x85, .val x105, .val (.ref (own_st p6 wOPEN wCLOSED wCANCELLED)), .val x15, .val x16, .val x17, .val x18, .val (.ref b216), .val .null, .val x202, .val x223, .val (.ref (own_st ((p6.toUInt32 >>> ((8 : Int32) &&& 31).toUInt32).toInt32) wOPEN wCLOSED wCANCELLED)), .val (.ref b287), .val (.ref b313), .val (.ref b351), .val (own_given x17 x8), .unset, .unset] [x66])) _
        exact kt
      have pre392 : own_Go p e below S0 (Tj368.setTop (mkF m 331 #[.val (.int p1), .val (.int p2), .val (.int p3), .val (.int p4), .val (.int p5), .val (.int p6), .val x6, .val x7, .val x8, .val x9, .val (.ref b73), .val x66, .val x85, .val x105, .val (.ref (own_st p6 wOPEN wCLOSED wCANCELLED)), .val x15, .val x16, .val x17, .val x18, .val (.ref b216), .val x182, .val x202, .val x223, .val (.ref (own_st ((p6.toUInt32 >>> ((8 : Int32) &&& 31).toUInt32).toInt32) wOPEN wCLOSED wCANCELLED)), .val (.ref b287), .val (.ref b313), .val (.ref b351), .val (own_given x17 x8), .unset, .unset] [(own_given x182 x66)])) := by
        intro t kt
        refine pre391 t ?_
        exact castTop (by rw [hv387]; rfl) kt
      exact ⟨Tj368, _, (Stand.mono Xj368 (by decide) (by decide)), Nj368, ej368, pre392⟩
    · have pre393 : own_Go p e below S0 (Tj368.setTop (mkF m 321 #[.val (.int p1), .val (.int p2), .val (.int p3), .val (.int p4), .val (.int p5), .val (.int p6), .val x6, .val x7, .val x8, .val x9, .val (.ref b73), .val x66, .val x85, .val x105, .val (.ref (own_st p6 wOPEN wCLOSED wCANCELLED)), .val x15, .val x16, .val x17, .val x18, .val (.ref b216), .val (.ref av388), .val x202, .val x223, .val (.ref (own_st ((p6.toUInt32 >>> ((8 : Int32) &&& 31).toUInt32).toInt32) wOPEN wCLOSED wCANCELLED)), .val (.ref b287), .val (.ref b313), .val (.ref b351), .val (own_given x17 x8), .unset, .unset] [(.ref av388)])) := by
        intro t kt
        refine pre389 t ?_
        exact castTop (by rw [hv387]) kt
      have pre394 : own_Go p e below S0 (Tj368.setTop (mkF m 331 #[.val (.int p1), .val (.int p2), .val (.int p3), .val (.int p4), .val (.int p5), .val (.int p6), .val x6, .val x7, .val x8, .val x9, .val (.ref b73), .val x66, .val x85, .val x105, .val (.ref (own_st p6 wOPEN wCLOSED wCANCELLED)), .val x15, .val x16, .val x17, .val x18, .val (.ref b216), .val (.ref av388), .val x202, .val x223, .val (.ref (own_st ((p6.toUInt32 >>> ((8 : Int32) &&& 31).toUInt32).toInt32) wOPEN wCLOSED wCANCELLED)), .val (.ref b287), .val (.ref b313), .val (.ref b351), .val (own_given x17 x8), .unset, .unset] [(.ref av388)])) := by
        intro t kt
        refine pre393 t ?_
        refine XS.ifnullNo Xj368.here hx rfl (hb hby at_321) rfl ?_
        show Steps p.tables e below (Tj368.setTop (mkF m 324 #[.val (.int p1), .val (.int p2), .val (.int p3), .val (.int p4), .val (.int p5), .val (.int p6), .val x6, .val x7, .val x8, .val x9, .val (.ref b73), .val x66, .val x85, .val x105, .val (.ref (own_st p6 wOPEN wCLOSED wCANCELLED)), .val x15, .val x16, .val x17, .val x18, .val (.ref b216), .val (.ref av388), .val x202, .val x223, .val (.ref (own_st ((p6.toUInt32 >>> ((8 : Int32) &&& 31).toUInt32).toInt32) wOPEN wCLOSED wCANCELLED)), .val (.ref b287), .val (.ref b313), .val (.ref b351), .val (own_given x17 x8), .unset, .unset] [])) _
        refine XS.aload Xj368.here hx rfl (hb hby at_324) rfl rfl ?_
        show Steps p.tables e below (Tj368.setTop (mkF m 326 #[.val (.int p1), .val (.int p2), .val (.int p3), .val (.int p4), .val (.int p5), .val (.int p6), .val x6, .val x7, .val x8, .val x9, .val (.ref b73), .val x66, .val x85, .val x105, .val (.ref (own_st p6 wOPEN wCLOSED wCANCELLED)), .val x15, .val x16, .val x17, .val x18, .val (.ref b216), .val (.ref av388), .val x202, .val x223, .val (.ref (own_st ((p6.toUInt32 >>> ((8 : Int32) &&& 31).toUInt32).toInt32) wOPEN wCLOSED wCANCELLED)), .val (.ref b287), .val (.ref b313), .val (.ref b351), .val (own_given x17 x8), .unset, .unset] [(.ref av388)])) _
        refine XS.goto Xj368.here hx rfl (pc0 := 326) (pc' := 331) rfl (hb hby at_326) (by decide) (by decide) ?_
        show Steps p.tables e below (Tj368.setTop (mkF m 331 #[.val (.int p1), .val (.int p2), .val (.int p3), .val (.int p4), .val (.int p5), .val (.int p6), .val x6, .val x7, .val x8, .val x9, .val (.ref b73), .val x66, .val x85, .val x105, .val (.ref (own_st p6 wOPEN wCLOSED wCANCELLED)), .val x15, .val x16, .val x17, .val x18, .val (.ref b216), .val (.ref av388), .val x202, .val x223, .val (.ref (own_st ((p6.toUInt32 >>> ((8 : Int32) &&& 31).toUInt32).toInt32) wOPEN wCLOSED wCANCELLED)), .val (.ref b287), .val (.ref b313), .val (.ref b351), .val (own_given x17 x8), .unset, .unset] [(.ref av388)])) _
        exact kt
      have pre395 : own_Go p e below S0 (Tj368.setTop (mkF m 331 #[.val (.int p1), .val (.int p2), .val (.int p3), .val (.int p4), .val (.int p5), .val (.int p6), .val x6, .val x7, .val x8, .val x9, .val (.ref b73), .val x66, .val x85, .val x105, .val (.ref (own_st p6 wOPEN wCLOSED wCANCELLED)), .val x15, .val x16, .val x17, .val x18, .val (.ref b216), .val x182, .val x202, .val x223, .val (.ref (own_st ((p6.toUInt32 >>> ((8 : Int32) &&& 31).toUInt32).toInt32) wOPEN wCLOSED wCANCELLED)), .val (.ref b287), .val (.ref b313), .val (.ref b351), .val (own_given x17 x8), .unset, .unset] [(own_given x182 x66)])) := by
        intro t kt
        refine pre394 t ?_
        exact castTop (by rw [hv387]; rfl) kt
      exact ⟨Tj368, _, (Stand.mono Xj368 (by decide) (by decide)), Nj368, ej368, pre395⟩
  have f396 := (own_OR.ext (own_OR.keep (own_OR.keep qj240 Kj243 ) Kj263 ) E287)
  have f397 : own_OR Z T350.heap x182  := (own_OR.keep (own_OR.keep (own_OR.ext (own_OR.keep f396 K300 ) E313) K327 ) K350 )
  have f398 := (own_OR.keep (own_OR.keep (own_OR.keep qj97 Kj100 ) Kj120 ) Kj144 )
  have f399 := (own_OR.keep (own_OR.keep (own_OR.keep (own_OR.keep f398 K215 ) Kj223 ) Kj243 ) Kj263 )
  have f400 := (own_OR.keep (own_OR.ext (own_OR.keep (own_OR.ext f399 E287) K300 ) E313) K327 )
  have f401 : own_OR Z T350.heap x66  := (own_OR.keep f400 K350 )
  have og331 : own_OR Z T350.heap (own_given x182 x66) := own_OR.given f397 f401
  have pre402 : own_Go p e below S0 (Tj386.setTop (mkF m 333 #[.val (.int p1), .val (.int p2), .val (.int p3), .val (.int p4), .val (.int p5), .val (.int p6), .val x6, .val x7, .val x8, .val x9, .val (.ref b73), .val x66, .val x85, .val x105, .val (.ref (own_st p6 wOPEN wCLOSED wCANCELLED)), .val x15, .val x16, .val x17, .val x18, .val (.ref b216), .val x182, .val x202, .val x223, .val (.ref (own_st ((p6.toUInt32 >>> ((8 : Int32) &&& 31).toUInt32).toInt32) wOPEN wCLOSED wCANCELLED)), .val (.ref b287), .val (.ref b313), .val (.ref b351), .val (own_given x17 x8), .val (own_given x182 x66), .unset] [])) := by
    intro t kt
    refine prej386 t ?_
    refine XS.astore Xj386.here hx rfl (hb hby at_331) rfl (own_givenR pj239 pj96) (l' := #[.val (.int p1), .val (.int p2), .val (.int p3), .val (.int p4), .val (.int p5), .val (.int p6), .val x6, .val x7, .val x8, .val x9, .val (.ref b73), .val x66, .val x85, .val x105, .val (.ref (own_st p6 wOPEN wCLOSED wCANCELLED)), .val x15, .val x16, .val x17, .val x18, .val (.ref b216), .val x182, .val x202, .val x223, .val (.ref (own_st ((p6.toUInt32 >>> ((8 : Int32) &&& 31).toUInt32).toInt32) wOPEN wCLOSED wCANCELLED)), .val (.ref b287), .val (.ref b313), .val (.ref b351), .val (own_given x17 x8), .val (own_given x182 x66), .unset]) (storeLocals_cat1 (x := .unset) rfl (own_cat (own_givenR pj239 pj96)) trivial) ?_
    show Steps p.tables e below (Tj386.setTop (mkF m 333 #[.val (.int p1), .val (.int p2), .val (.int p3), .val (.int p4), .val (.int p5), .val (.int p6), .val x6, .val x7, .val x8, .val x9, .val (.ref b73), .val x66, .val x85, .val x105, .val (.ref (own_st p6 wOPEN wCLOSED wCANCELLED)), .val x15, .val x16, .val x17, .val x18, .val (.ref b216), .val x182, .val x202, .val x223, .val (.ref (own_st ((p6.toUInt32 >>> ((8 : Int32) &&& 31).toUInt32).toInt32) wOPEN wCLOSED wCANCELLED)), .val (.ref b287), .val (.ref b313), .val (.ref b351), .val (own_given x17 x8), .val (own_given x182 x66), .unset] [])) _
    exact kt
  obtain ⟨Tj403, lj403, Xj403, Nj403, ej403, prej403⟩ : ∃ (Tj403 : State) (lj403 : List Loc), Stand p l e room_1 s m #[(.int p1), (.int p2), (.int p3), (.int p4), (.int p5), (.int p6)] below meth c Tj403 lj403 35 107 ∧ Fr n0 lj403 ∧ Tj403.heap = T350.heap ∧ own_Go p e below S0 (Tj403.setTop (mkF m 345 #[.val (.int p1), .val (.int p2), .val (.int p3), .val (.int p4), .val (.int p5), .val (.int p6), .val x6, .val x7, .val x8, .val x9, .val (.ref b73), .val x66, .val x85, .val x105, .val (.ref (own_st p6 wOPEN wCLOSED wCANCELLED)), .val x15, .val x16, .val x17, .val x18, .val (.ref b216), .val x182, .val x202, .val x223, .val (.ref (own_st ((p6.toUInt32 >>> ((8 : Int32) &&& 31).toUInt32).toInt32) wOPEN wCLOSED wCANCELLED)), .val (.ref b287), .val (.ref b313), .val (.ref b351), .val (own_given x17 x8), .val (own_given x182 x66), .unset] [(own_given x202 x85)])) := by
    have pre406 : own_Go p e below S0 (Tj386.setTop (mkF m 335 #[.val (.int p1), .val (.int p2), .val (.int p3), .val (.int p4), .val (.int p5), .val (.int p6), .val x6, .val x7, .val x8, .val x9, .val (.ref b73), .val x66, .val x85, .val x105, .val (.ref (own_st p6 wOPEN wCLOSED wCANCELLED)), .val x15, .val x16, .val x17, .val x18, .val (.ref b216), .val x182, .val x202, .val x223, .val (.ref (own_st ((p6.toUInt32 >>> ((8 : Int32) &&& 31).toUInt32).toInt32) wOPEN wCLOSED wCANCELLED)), .val (.ref b287), .val (.ref b313), .val (.ref b351), .val (own_given x17 x8), .val (own_given x182 x66), .unset] [x202])) := by
      intro t kt
      refine pre402 t ?_
      refine XS.aload Xj386.here hx rfl (hb hby at_333) rfl pj259 ?_
      show Steps p.tables e below (Tj386.setTop (mkF m 335 #[.val (.int p1), .val (.int p2), .val (.int p3), .val (.int p4), .val (.int p5), .val (.int p6), .val x6, .val x7, .val x8, .val x9, .val (.ref b73), .val x66, .val x85, .val x105, .val (.ref (own_st p6 wOPEN wCLOSED wCANCELLED)), .val x15, .val x16, .val x17, .val x18, .val (.ref b216), .val x182, .val x202, .val x223, .val (.ref (own_st ((p6.toUInt32 >>> ((8 : Int32) &&& 31).toUInt32).toInt32) wOPEN wCLOSED wCANCELLED)), .val (.ref b287), .val (.ref b313), .val (.ref b351), .val (own_given x17 x8), .val (own_given x182 x66), .unset] [x202])) _
      exact kt
    obtain hv404 | ⟨av405, hv404⟩ := ref_cases pj259
    · have pre407 : own_Go p e below S0 (Tj386.setTop (mkF m 335 #[.val (.int p1), .val (.int p2), .val (.int p3), .val (.int p4), .val (.int p5), .val (.int p6), .val x6, .val x7, .val x8, .val x9, .val (.ref b73), .val x66, .val x85, .val x105, .val (.ref (own_st p6 wOPEN wCLOSED wCANCELLED)), .val x15, .val x16, .val x17, .val x18, .val (.ref b216), .val x182, .val .null, .val x223, .val (.ref (own_st ((p6.toUInt32 >>> ((8 : Int32) &&& 31).toUInt32).toInt32) wOPEN wCLOSED wCANCELLED)), .val (.ref b287), .val (.ref b313), .val (.ref b351), .val (own_given x17 x8), .val (own_given x182 x66), .unset] [.null])) := by
        intro t kt
        refine pre406 t ?_
        exact castTop (by rw [hv404]) kt
      have pre408 : own_Go p e below S0 (Tj386.setTop (mkF m 345 #[.val (.int p1), .val (.int p2), .val (.int p3), .val (.int p4), .val (.int p5), .val (.int p6), .val x6, .val x7, .val x8, .val x9, .val (.ref b73), .val x66, .val x85, .val x105, .val (.ref (own_st p6 wOPEN wCLOSED wCANCELLED)), .val x15, .val x16, .val x17, .val x18, .val (.ref b216), .val x182, .val .null, .val x223, .val (.ref (own_st ((p6.toUInt32 >>> ((8 : Int32) &&& 31).toUInt32).toInt32) wOPEN wCLOSED wCANCELLED)), .val (.ref b287), .val (.ref b313), .val (.ref b351), .val (own_given x17 x8), .val (own_given x182 x66), .unset] [x85])) := by
        intro t kt
        refine pre407 t ?_
        refine XS.ifnullYes Xj386.here hx rfl (pc0 := 335) (pc' := 343) rfl (hb hby at_335) rfl (by decide) (by decide) ?_
        show Steps p.tables e below (Tj386.setTop (mkF m 343 #[.val (.int p1), .val (.int p2), .val (.int p3), .val (.int p4), .val (.int p5), .val (.int p6), .val x6, .val x7, .val x8, .val x9, .val (.ref b73), .val x66, .val x85, .val x105, .val (.ref (own_st p6 wOPEN wCLOSED wCANCELLED)), .val x15, .val x16, .val x17, .val x18, .val (.ref b216), .val x182, .val .null, .val x223, .val (.ref (own_st ((p6.toUInt32 >>> ((8 : Int32) &&& 31).toUInt32).toInt32) wOPEN wCLOSED wCANCELLED)), .val (.ref b287), .val (.ref b313), .val (.ref b351), .val (own_given x17 x8), .val (own_given x182 x66), .unset] [])) _
        refine XS.aload Xj386.here hx rfl (hb hby at_343) rfl pj116 ?_
        show Steps p.tables e below (Tj386.setTop (mkF m 345 #[.val (.int p1), .val (.int p2), .val (.int p3), .val (.int p4), .val (.int p5), .val (.int p6), .val x6, .val x7, .val x8, .val x9, .val (.ref b73), .val x66, .val x85, .val x105, .val (.ref (own_st p6 wOPEN wCLOSED wCANCELLED)), .val x15, .val x16, .val x17, .val x18, .val (.ref b216), .val x182, .val .null, .val x223, .val (.ref (own_st ((p6.toUInt32 >>> ((8 : Int32) &&& 31).toUInt32).toInt32) wOPEN wCLOSED wCANCELLED)), .val (.ref b287), .val (.ref b313), .val (.ref b351), .val (own_given x17 x8), .val (own_given x182 x66), .unset] [x85])) _
        exact kt
      have pre409 : own_Go p e below S0 (Tj386.setTop (mkF m 345 #[.val (.int p1), .val (.int p2), .val (.int p3), .val (.int p4), .val (.int p5), .val (.int p6), .val x6, .val x7, .val x8, .val x9, .val (.ref b73), .val x66, .val x85, .val x105, .val (.ref (own_st p6 wOPEN wCLOSED wCANCELLED)), .val x15, .val x16, .val x17, .val x18, .val (.ref b216), .val x182, .val x202, .val x223, .val (.ref (own_st ((p6.toUInt32 >>> ((8 : Int32) &&& 31).toUInt32).toInt32) wOPEN wCLOSED wCANCELLED)), .val (.ref b287), .val (.ref b313), .val (.ref b351), .val (own_given x17 x8), .val (own_given x182 x66), .unset] [(own_given x202 x85)])) := by
        intro t kt
        refine pre408 t ?_
        exact castTop (by rw [hv404]; rfl) kt
      exact ⟨Tj386, _, (Stand.mono Xj386 (by decide) (by decide)), Nj386, ej386, pre409⟩
    · have pre410 : own_Go p e below S0 (Tj386.setTop (mkF m 335 #[.val (.int p1), .val (.int p2), .val (.int p3), .val (.int p4), .val (.int p5), .val (.int p6), .val x6, .val x7, .val x8, .val x9, .val (.ref b73), .val x66, .val x85, .val x105, .val (.ref (own_st p6 wOPEN wCLOSED wCANCELLED)), .val x15, .val x16, .val x17, .val x18, .val (.ref b216), .val x182, .val (.ref av405), .val x223, .val (.ref (own_st ((p6.toUInt32 >>> ((8 : Int32) &&& 31).toUInt32).toInt32) wOPEN wCLOSED wCANCELLED)), .val (.ref b287), .val (.ref b313), .val (.ref b351), .val (own_given x17 x8), .val (own_given x182 x66), .unset] [(.ref av405)])) := by
        intro t kt
        refine pre406 t ?_
        exact castTop (by rw [hv404]) kt
      have pre411 : own_Go p e below S0 (Tj386.setTop (mkF m 345 #[.val (.int p1), .val (.int p2), .val (.int p3), .val (.int p4), .val (.int p5), .val (.int p6), .val x6, .val x7, .val x8, .val x9, .val (.ref b73), .val x66, .val x85, .val x105, .val (.ref (own_st p6 wOPEN wCLOSED wCANCELLED)), .val x15, .val x16, .val x17, .val x18, .val (.ref b216), .val x182, .val (.ref av405), .val x223, .val (.ref (own_st ((p6.toUInt32 >>> ((8 : Int32) &&& 31).toUInt32).toInt32) wOPEN wCLOSED wCANCELLED)), .val (.ref b287), .val (.ref b313), .val (.ref b351), .val (own_given x17 x8), .val (own_given x182 x66), .unset] [(.ref av405)])) := by
        intro t kt
        refine pre410 t ?_
        refine XS.ifnullNo Xj386.here hx rfl (hb hby at_335) rfl ?_
        show Steps p.tables e below (Tj386.setTop (mkF m 338 #[.val (.int p1), .val (.int p2), .val (.int p3), .val (.int p4), .val (.int p5), .val (.int p6), .val x6, .val x7, .val x8, .val x9, .val (.ref b73), .val x66, .val x85, .val x105, .val (.ref (own_st p6 wOPEN wCLOSED wCANCELLED)), .val x15, .val x16, .val x17, .val x18, .val (.ref b216), .val x182, .val (.ref av405), .val x223, .val (.ref (own_st ((p6.toUInt32 >>> ((8 : Int32) &&& 31).toUInt32).toInt32) wOPEN wCLOSED wCANCELLED)), .val (.ref b287), .val (.ref b313), .val (.ref b351), .val (own_given x17 x8), .val (own_given x182 x66), .unset] [])) _
        refine XS.aload Xj386.here hx rfl (hb hby at_338) rfl rfl ?_
        show Steps p.tables e below (Tj386.setTop (mkF m 340 #[.val (.int p1), .val (.int p2), .val (.int p3), .val (.int p4), .val (.int p5), .val (.int p6), .val x6, .val x7, .val x8, .val x9, .val (.ref b73), .val x66, .val x85, .val x105, .val (.ref (own_st p6 wOPEN wCLOSED wCANCELLED)), .val x15, .val x16, .val x17, .val x18, .val (.ref b216), .val x182, .val (.ref av405), .val x223, .val (.ref (own_st ((p6.toUInt32 >>> ((8 : Int32) &&& 31).toUInt32).toInt32) wOPEN wCLOSED wCANCELLED)), .val (.ref b287), .val (.ref b313), .val (.ref b351), .val (own_given x17 x8), .val (own_given x182 x66), .unset] [(.ref av405)])) _
        refine XS.goto Xj386.here hx rfl (pc0 := 340) (pc' := 345) rfl (hb hby at_340) (by decide) (by decide) ?_
        show Steps p.tables e below (Tj386.setTop (mkF m 345 #[.val (.int p1), .val (.int p2), .val (.int p3), .val (.int p4), .val (.int p5), .val (.int p6), .val x6, .val x7, .val x8, .val x9, .val (.ref b73), .val x66, .val x85, .val x105, .val (.ref (own_st p6 wOPEN wCLOSED wCANCELLED)), .val x15, .val x16, .val x17, .val x18, .val (.ref b216), .val x182, .val (.ref av405), .val x223, .val (.ref (own_st ((p6.toUInt32 >>> ((8 : Int32) &&& 31).toUInt32).toInt32) wOPEN wCLOSED wCANCELLED)), .val (.ref b287), .val (.ref b313), .val (.ref b351), .val (own_given x17 x8), .val (own_given x182 x66), .unset] [(.ref av405)])) _
        exact kt
      have pre412 : own_Go p e below S0 (Tj386.setTop (mkF m 345 #[.val (.int p1), .val (.int p2), .val (.int p3), .val (.int p4), .val (.int p5), .val (.int p6), .val x6, .val x7, .val x8, .val x9, .val (.ref b73), .val x66, .val x85, .val x105, .val (.ref (own_st p6 wOPEN wCLOSED wCANCELLED)), .val x15, .val x16, .val x17, .val x18, .val (.ref b216), .val x182, .val x202, .val x223, .val (.ref (own_st ((p6.toUInt32 >>> ((8 : Int32) &&& 31).toUInt32).toInt32) wOPEN wCLOSED wCANCELLED)), .val (.ref b287), .val (.ref b313), .val (.ref b351), .val (own_given x17 x8), .val (own_given x182 x66), .unset] [(own_given x202 x85)])) := by
        intro t kt
        refine pre411 t ?_
        exact castTop (by rw [hv404]; rfl) kt
      exact ⟨Tj386, _, (Stand.mono Xj386 (by decide) (by decide)), Nj386, ej386, pre412⟩
  have f413 := (own_OR.keep (own_OR.ext (own_OR.keep qj260 Kj263 ) E287) K300 )
  have f414 : own_OR Z T350.heap x202  := (own_OR.keep (own_OR.keep (own_OR.ext f413 E313) K327 ) K350 )
  have f415 := (own_OR.keep (own_OR.keep (own_OR.keep qj117 Kj120 ) Kj144 ) K215 )
  have f416 := (own_OR.ext (own_OR.keep (own_OR.keep (own_OR.keep f415 Kj223 ) Kj243 ) Kj263 ) E287)
  have f417 : own_OR Z T350.heap x85  := (own_OR.keep (own_OR.keep (own_OR.ext (own_OR.keep f416 K300 ) E313) K327 ) K350 )
  have og345 : own_OR Z T350.heap (own_given x202 x85) := own_OR.given f414 f417
  have pre418 : own_Go p e below S0 (Tj403.setTop (mkF m 349 #[.val (.int p1), .val (.int p2), .val (.int p3), .val (.int p4), .val (.int p5), .val (.int p6), .val x6, .val x7, .val x8, .val x9, .val (.ref b73), .val x66, .val x85, .val x105, .val (.ref (own_st p6 wOPEN wCLOSED wCANCELLED)), .val x15, .val x16, .val x17, .val x18, .val (.ref b216), .val x182, .val x202, .val x223, .val (.ref (own_st ((p6.toUInt32 >>> ((8 : Int32) &&& 31).toUInt32).toInt32) wOPEN wCLOSED wCANCELLED)), .val (.ref b287), .val (.ref b313), .val (.ref b351), .val (own_given x17 x8), .val (own_given x182 x66), .val (own_given x202 x85)] [(.ref b351)])) := by
    intro t kt
    refine prej403 t ?_
    refine XS.astore Xj403.here hx rfl (hb hby at_345) rfl (own_givenR pj259 pj116) (l' := #[.val (.int p1), .val (.int p2), .val (.int p3), .val (.int p4), .val (.int p5), .val (.int p6), .val x6, .val x7, .val x8, .val x9, .val (.ref b73), .val x66, .val x85, .val x105, .val (.ref (own_st p6 wOPEN wCLOSED wCANCELLED)), .val x15, .val x16, .val x17, .val x18, .val (.ref b216), .val x182, .val x202, .val x223, .val (.ref (own_st ((p6.toUInt32 >>> ((8 : Int32) &&& 31).toUInt32).toInt32) wOPEN wCLOSED wCANCELLED)), .val (.ref b287), .val (.ref b313), .val (.ref b351), .val (own_given x17 x8), .val (own_given x182 x66), .val (own_given x202 x85)]) (storeLocals_cat1 (x := .unset) rfl (own_cat (own_givenR pj259 pj116)) trivial) ?_
    show Steps p.tables e below (Tj403.setTop (mkF m 347 #[.val (.int p1), .val (.int p2), .val (.int p3), .val (.int p4), .val (.int p5), .val (.int p6), .val x6, .val x7, .val x8, .val x9, .val (.ref b73), .val x66, .val x85, .val x105, .val (.ref (own_st p6 wOPEN wCLOSED wCANCELLED)), .val x15, .val x16, .val x17, .val x18, .val (.ref b216), .val x182, .val x202, .val x223, .val (.ref (own_st ((p6.toUInt32 >>> ((8 : Int32) &&& 31).toUInt32).toInt32) wOPEN wCLOSED wCANCELLED)), .val (.ref b287), .val (.ref b313), .val (.ref b351), .val (own_given x17 x8), .val (own_given x182 x66), .val (own_given x202 x85)] [])) _
    refine XS.aload Xj403.here hx rfl (hb hby at_347) rfl rfl ?_
    show Steps p.tables e below (Tj403.setTop (mkF m 349 #[.val (.int p1), .val (.int p2), .val (.int p3), .val (.int p4), .val (.int p5), .val (.int p6), .val x6, .val x7, .val x8, .val x9, .val (.ref b73), .val x66, .val x85, .val x105, .val (.ref (own_st p6 wOPEN wCLOSED wCANCELLED)), .val x15, .val x16, .val x17, .val x18, .val (.ref b216), .val x182, .val x202, .val x223, .val (.ref (own_st ((p6.toUInt32 >>> ((8 : Int32) &&& 31).toUInt32).toInt32) wOPEN wCLOSED wCANCELLED)), .val (.ref b287), .val (.ref b313), .val (.ref b351), .val (own_given x17 x8), .val (own_given x182 x66), .val (own_given x202 x85)] [(.ref b351)])) _
    exact kt
  obtain ⟨cq419, kq419, qa419, qb419, qc419⟩ := isOf hZ ej403 g353
  obtain ⟨_, _, ⟨T419, L419, k419, n419⟩, -, X419, ⟨Lc419, hQ419, l419, y419, z419⟩, st419⟩ := Xj403.virtualBack hx (y := (⟨"com/example/refertario/refertario/store/Episode", "application", "()Ljava/lang/String;"⟩ : MethodName)) (z := (⟨"com/example/refertario/refertario/store/Episode", "application", "()Ljava/lang/String;"⟩ : MethodName)) hown (mvT hZ (hw _ (own_w 80 rfl))) (mvT hZ (hw _ (own_w 81 rfl))) (notFace_of_selects (args := #[]) (mvT hZ (hw _ (own_w 83 rfl)))) (mvT hZ (hw _ (own_w 83 rfl))) (mvT hZ (hw _ (own_w 82 rfl))) (by decide) (backOf (W := 0) (rm13 l Z a0 hw [] b351 x6 T350.heap n0 zs366 g354 pj61) hZ (hw _ (own_w 84 rfl)) (hw _ (own_w 38 rfl)) (by decide) (by decide)) qa419 qc419 (g := (mkF m 349 #[.val (.int p1), .val (.int p2), .val (.int p3), .val (.int p4), .val (.int p5), .val (.int p6), .val x6, .val x7, .val x8, .val x9, .val (.ref b73), .val x66, .val x85, .val x105, .val (.ref (own_st p6 wOPEN wCLOSED wCANCELLED)), .val x15, .val x16, .val x17, .val x18, .val (.ref b216), .val x182, .val x202, .val x223, .val (.ref (own_st ((p6.toUInt32 >>> ((8 : Int32) &&& 31).toUInt32).toInt32) wOPEN wCLOSED wCANCELLED)), .val (.ref b287), .val (.ref b313), .val (.ref b351), .val (own_given x17 x8), .val (own_given x182 x66), .val (own_given x202 x85)] [(.ref b351)])) rfl (by rw [hml]; rfl) (Steps.refl _) (argsL := []) (rest := []) (lenOf pd_12 rfl) rfl (by show 2 * 0 + _ ≤ _; exact Nat.le_of_eq rfl) (hb hby at_349) (fun _ _ => ⟨rfl, ej403, (by decide : 35 + 0 ≤ _), (by decide : 107 + 0 ≤ _)⟩)
  dsimp only [Pt.U, Pt.locs, Pt.cells, Pt.slots] at X419 l419 y419 z419 st419 hQ419
  subst l419 y419 z419
  obtain ⟨rfl, Nq419, eq419⟩ := hQ419
  have N419 := Fr.app Nj403 Nq419
  have pre420 : own_Go p e below S0 (T419.setTop (mkF m 354 #[.val (.int p1), .val (.int p2), .val (.int p3), .val (.int p4), .val (.int p5), .val (.int p6), .val x6, .val x7, .val x8, .val x9, .val (.ref b73), .val x66, .val x85, .val x105, .val (.ref (own_st p6 wOPEN wCLOSED wCANCELLED)), .val x15, .val x16, .val x17, .val x18, .val (.ref b216), .val x182, .val x202, .val x223, .val (.ref (own_st ((p6.toUInt32 >>> ((8 : Int32) &&& 31).toUInt32).toInt32) wOPEN wCLOSED wCANCELLED)), .val (.ref b287), .val (.ref b313), .val (.ref b351), .val (own_given x17 x8), .val (own_given x182 x66), .val (own_given x202 x85)] [x6, x6])) := by
    intro t kt
    refine pre418 t ?_
    refine st419.trans ?_
    show Steps p.tables e below (T419.setTop (mkF m 352 #[.val (.int p1), .val (.int p2), .val (.int p3), .val (.int p4), .val (.int p5), .val (.int p6), .val x6, .val x7, .val x8, .val x9, .val (.ref b73), .val x66, .val x85, .val x105, .val (.ref (own_st p6 wOPEN wCLOSED wCANCELLED)), .val x15, .val x16, .val x17, .val x18, .val (.ref b216), .val x182, .val x202, .val x223, .val (.ref (own_st ((p6.toUInt32 >>> ((8 : Int32) &&& 31).toUInt32).toInt32) wOPEN wCLOSED wCANCELLED)), .val (.ref b287), .val (.ref b313), .val (.ref b351), .val (own_given x17 x8), .val (own_given x182 x66), .val (own_given x202 x85)] [x6])) _
    refine XS.aload X419.here hx rfl (hb hby at_352) rfl pj61 ?_
    show Steps p.tables e below (T419.setTop (mkF m 354 #[.val (.int p1), .val (.int p2), .val (.int p3), .val (.int p4), .val (.int p5), .val (.int p6), .val x6, .val x7, .val x8, .val x9, .val (.ref b73), .val x66, .val x85, .val x105, .val (.ref (own_st p6 wOPEN wCLOSED wCANCELLED)), .val x15, .val x16, .val x17, .val x18, .val (.ref b216), .val x182, .val x202, .val x223, .val (.ref (own_st ((p6.toUInt32 >>> ((8 : Int32) &&& 31).toUInt32).toInt32) wOPEN wCLOSED wCANCELLED)), .val (.ref b287), .val (.ref b313), .val (.ref b351), .val (own_given x17 x8), .val (own_given x182 x66), .val (own_given x202 x85)] [x6, x6])) _
    exact kt
  have f421 := (own_OR.keep (own_OR.keep (own_OR.keep qj65 K72 ) Kj80 ) Kj100 )
  have f422 := (own_OR.keep (own_OR.keep (own_OR.keep (own_OR.keep f421 Kj120 ) Kj144 ) K215 ) Kj223 )
  have f423 := (own_OR.keep (own_OR.ext (own_OR.keep (own_OR.keep f422 Kj243 ) Kj263 ) E287) K300 )
  have f424 : own_OR Z T350.heap x6  := (own_OR.keep (own_OR.keep (own_OR.ext f423 E313) K327 ) K350 )
  obtain ⟨_, _, ⟨T425, L425, k425, n425⟩, -, X425, ⟨Lc425, hQ425, l425, y425, z425⟩, st425⟩ := Jvm.LawKit.callS X419 hx (y := (⟨"com/example/refertario/refertario/store/EpisodeAdmittedAsPinLaw", "eq", "(Ljava/lang/String;Ljava/lang/String;)Z"⟩ : MethodName)) hown (mvT hZ (hw _ (own_w 85 rfl))) (mvT hZ (hw _ (own_w 86 rfl))) (mvT hZ (hw _ (own_w 2 rfl))) (mvT hZ (hw _ (own_w 87 rfl))) (by decide) (backOf (W := 0) (rm14 l Z a0 hw [] x6 T350.heap n0 zs366 pj61 f424) hZ (hw _ (own_w 87 rfl)) (hw _ (own_w 2 rfl)) (by decide) (by decide)) (g := (mkF m 354 #[.val (.int p1), .val (.int p2), .val (.int p3), .val (.int p4), .val (.int p5), .val (.int p6), .val x6, .val x7, .val x8, .val x9, .val (.ref b73), .val x66, .val x85, .val x105, .val (.ref (own_st p6 wOPEN wCLOSED wCANCELLED)), .val x15, .val x16, .val x17, .val x18, .val (.ref b216), .val x182, .val x202, .val x223, .val (.ref (own_st ((p6.toUInt32 >>> ((8 : Int32) &&& 31).toUInt32).toInt32) wOPEN wCLOSED wCANCELLED)), .val (.ref b287), .val (.ref b313), .val (.ref b351), .val (own_given x17 x8), .val (own_given x182 x66), .val (own_given x202 x85)] [x6, x6])) rfl (by rw [hml]; rfl) (argsL := [x6, x6]) (rest := []) (lenOf pd_13 rfl) rfl (by show 2 * 0 + _ ≤ _; exact Nat.le_of_eq rfl) (hb hby at_354) (fun _ _ => ⟨rfl, eq419, (by decide : 35 + 0 ≤ _), (by decide : 107 + 0 ≤ _)⟩)
  dsimp only [Pt.U, Pt.locs, Pt.cells, Pt.slots] at X425 l425 y425 z425 st425 hQ425
  subst l425 y425 z425
  obtain ⟨rfl, Nq425, eq425⟩ := hQ425
  have N425 := Fr.app N419 Nq425
  have pre426 : own_Go p e below S0 (T425.setTop (mkF m 362 #[.val (.int p1), .val (.int p2), .val (.int p3), .val (.int p4), .val (.int p5), .val (.int p6), .val x6, .val x7, .val x8, .val x9, .val (.ref b73), .val x66, .val x85, .val x105, .val (.ref (own_st p6 wOPEN wCLOSED wCANCELLED)), .val x15, .val x16, .val x17, .val x18, .val (.ref b216), .val x182, .val x202, .val x223, .val (.ref (own_st ((p6.toUInt32 >>> ((8 : Int32) &&& 31).toUInt32).toInt32) wOPEN wCLOSED wCANCELLED)), .val (.ref b287), .val (.ref b313), .val (.ref b351), .val (own_given x17 x8), .val (own_given x182 x66), .val (own_given x202 x85)] [(.ref b351)])) := by
    intro t kt
    refine pre420 t ?_
    refine st425 _ ?_
    show Steps p.tables e below (T425.setTop (mkF m 357 #[.val (.int p1), .val (.int p2), .val (.int p3), .val (.int p4), .val (.int p5), .val (.int p6), .val x6, .val x7, .val x8, .val x9, .val (.ref b73), .val x66, .val x85, .val x105, .val (.ref (own_st p6 wOPEN wCLOSED wCANCELLED)), .val x15, .val x16, .val x17, .val x18, .val (.ref b216), .val x182, .val x202, .val x223, .val (.ref (own_st ((p6.toUInt32 >>> ((8 : Int32) &&& 31).toUInt32).toInt32) wOPEN wCLOSED wCANCELLED)), .val (.ref b287), .val (.ref b313), .val (.ref b351), .val (own_given x17 x8), .val (own_given x182 x66), .val (own_given x202 x85)] [(.int (1 : Int32))])) _
    refine XS.ifNo X425.here hx rfl (hb hby at_357) rfl ((if0 _ _).trans (feq (by decide : ¬ ((1 : Int32) = (0 : Int32)))).1) ?_
    show Steps p.tables e below (T425.setTop (mkF m 360 #[.val (.int p1), .val (.int p2), .val (.int p3), .val (.int p4), .val (.int p5), .val (.int p6), .val x6, .val x7, .val x8, .val x9, .val (.ref b73), .val x66, .val x85, .val x105, .val (.ref (own_st p6 wOPEN wCLOSED wCANCELLED)), .val x15, .val x16, .val x17, .val x18, .val (.ref b216), .val x182, .val x202, .val x223, .val (.ref (own_st ((p6.toUInt32 >>> ((8 : Int32) &&& 31).toUInt32).toInt32) wOPEN wCLOSED wCANCELLED)), .val (.ref b287), .val (.ref b313), .val (.ref b351), .val (own_given x17 x8), .val (own_given x182 x66), .val (own_given x202 x85)] [])) _
    refine XS.aload X425.here hx rfl (hb hby at_360) rfl rfl ?_
    show Steps p.tables e below (T425.setTop (mkF m 362 #[.val (.int p1), .val (.int p2), .val (.int p3), .val (.int p4), .val (.int p5), .val (.int p6), .val x6, .val x7, .val x8, .val x9, .val (.ref b73), .val x66, .val x85, .val x105, .val (.ref (own_st p6 wOPEN wCLOSED wCANCELLED)), .val x15, .val x16, .val x17, .val x18, .val (.ref b216), .val x182, .val x202, .val x223, .val (.ref (own_st ((p6.toUInt32 >>> ((8 : Int32) &&& 31).toUInt32).toInt32) wOPEN wCLOSED wCANCELLED)), .val (.ref b287), .val (.ref b313), .val (.ref b351), .val (own_given x17 x8), .val (own_given x182 x66), .val (own_given x202 x85)] [(.ref b351)])) _
    exact kt
  obtain ⟨cq427, kq427, qa427, qb427, qc427⟩ := isOf hZ eq425 g353
  obtain ⟨_, _, ⟨T427, L427, k427, n427⟩, -, X427, ⟨Lc427, hQ427, l427, y427, z427⟩, st427⟩ := X425.virtualBack hx (y := (⟨"com/example/refertario/refertario/store/Episode", "id", "()Ljava/lang/String;"⟩ : MethodName)) (z := (⟨"com/example/refertario/refertario/store/Episode", "id", "()Ljava/lang/String;"⟩ : MethodName)) hown (mvT hZ (hw _ (own_w 93 rfl))) (mvT hZ (hw _ (own_w 94 rfl))) (notFace_of_selects (args := #[]) (mvT hZ (hw _ (own_w 96 rfl)))) (mvT hZ (hw _ (own_w 96 rfl))) (mvT hZ (hw _ (own_w 95 rfl))) (by decide) (backOf (W := 0) (rm16 l Z a0 hw [] b351 x7 T350.heap n0 zs366 g355 pj62) hZ (hw _ (own_w 97 rfl)) (hw _ (own_w 38 rfl)) (by decide) (by decide)) qa427 qc427 (g := (mkF m 362 #[.val (.int p1), .val (.int p2), .val (.int p3), .val (.int p4), .val (.int p5), .val (.int p6), .val x6, .val x7, .val x8, .val x9, .val (.ref b73), .val x66, .val x85, .val x105, .val (.ref (own_st p6 wOPEN wCLOSED wCANCELLED)), .val x15, .val x16, .val x17, .val x18, .val (.ref b216), .val x182, .val x202, .val x223, .val (.ref (own_st ((p6.toUInt32 >>> ((8 : Int32) &&& 31).toUInt32).toInt32) wOPEN wCLOSED wCANCELLED)), .val (.ref b287), .val (.ref b313), .val (.ref b351), .val (own_given x17 x8), .val (own_given x182 x66), .val (own_given x202 x85)] [(.ref b351)])) rfl (by rw [hml]; rfl) (Steps.refl _) (argsL := []) (rest := []) (lenOf pd_12 rfl) rfl (by show 2 * 0 + _ ≤ _; exact Nat.le_of_eq rfl) (hb hby at_362) (fun _ _ => ⟨rfl, eq425, (by decide : 35 + 0 ≤ _), (by decide : 107 + 0 ≤ _)⟩)
  dsimp only [Pt.U, Pt.locs, Pt.cells, Pt.slots] at X427 l427 y427 z427 st427 hQ427
  subst l427 y427 z427
  obtain ⟨rfl, Nq427, eq427⟩ := hQ427
  have N427 := Fr.app N425 Nq427
  have pre428 : own_Go p e below S0 (T427.setTop (mkF m 367 #[.val (.int p1), .val (.int p2), .val (.int p3), .val (.int p4), .val (.int p5), .val (.int p6), .val x6, .val x7, .val x8, .val x9, .val (.ref b73), .val x66, .val x85, .val x105, .val (.ref (own_st p6 wOPEN wCLOSED wCANCELLED)), .val x15, .val x16, .val x17, .val x18, .val (.ref b216), .val x182, .val x202, .val x223, .val (.ref (own_st ((p6.toUInt32 >>> ((8 : Int32) &&& 31).toUInt32).toInt32) wOPEN wCLOSED wCANCELLED)), .val (.ref b287), .val (.ref b313), .val (.ref b351), .val (own_given x17 x8), .val (own_given x182 x66), .val (own_given x202 x85)] [x7, x7])) := by
    intro t kt
    refine pre426 t ?_
    refine st427.trans ?_
    show Steps p.tables e below (T427.setTop (mkF m 365 #[.val (.int p1), .val (.int p2), .val (.int p3), .val (.int p4), .val (.int p5), .val (.int p6), .val x6, .val x7, .val x8, .val x9, .val (.ref b73), .val x66, .val x85, .val x105, .val (.ref (own_st p6 wOPEN wCLOSED wCANCELLED)), .val x15, .val x16, .val x17, .val x18, .val (.ref b216), .val x182, .val x202, .val x223, .val (.ref (own_st ((p6.toUInt32 >>> ((8 : Int32) &&& 31).toUInt32).toInt32) wOPEN wCLOSED wCANCELLED)), .val (.ref b287), .val (.ref b313), .val (.ref b351), .val (own_given x17 x8), .val (own_given x182 x66), .val (own_given x202 x85)] [x7])) _
    refine XS.aload X427.here hx rfl (hb hby at_365) rfl pj62 ?_
    show Steps p.tables e below (T427.setTop (mkF m 367 #[.val (.int p1), .val (.int p2), .val (.int p3), .val (.int p4), .val (.int p5), .val (.int p6), .val x6, .val x7, .val x8, .val x9, .val (.ref b73), .val x66, .val x85, .val x105, .val (.ref (own_st p6 wOPEN wCLOSED wCANCELLED)), .val x15, .val x16, .val x17, .val x18, .val (.ref b216), .val x182, .val x202, .val x223, .val (.ref (own_st ((p6.toUInt32 >>> ((8 : Int32) &&& 31).toUInt32).toInt32) wOPEN wCLOSED wCANCELLED)), .val (.ref b287), .val (.ref b313), .val (.ref b351), .val (own_given x17 x8), .val (own_given x182 x66), .val (own_given x202 x85)] [x7, x7])) _
    exact kt
  have f429 := (own_OR.keep (own_OR.keep (own_OR.keep qj66 K72 ) Kj80 ) Kj100 )
  have f430 := (own_OR.keep (own_OR.keep (own_OR.keep (own_OR.keep f429 Kj120 ) Kj144 ) K215 ) Kj223 )
  have f431 := (own_OR.keep (own_OR.ext (own_OR.keep (own_OR.keep f430 Kj243 ) Kj263 ) E287) K300 )
  have f432 : own_OR Z T350.heap x7  := (own_OR.keep (own_OR.keep (own_OR.ext f431 E313) K327 ) K350 )
  obtain ⟨_, _, ⟨T433, L433, k433, n433⟩, -, X433, ⟨Lc433, hQ433, l433, y433, z433⟩, st433⟩ := Jvm.LawKit.callS X427 hx (y := (⟨"com/example/refertario/refertario/store/EpisodeAdmittedAsPinLaw", "eq", "(Ljava/lang/String;Ljava/lang/String;)Z"⟩ : MethodName)) hown (mvT hZ (hw _ (own_w 85 rfl))) (mvT hZ (hw _ (own_w 86 rfl))) (mvT hZ (hw _ (own_w 2 rfl))) (mvT hZ (hw _ (own_w 87 rfl))) (by decide) (backOf (W := 0) (rm14 l Z a0 hw [] x7 T350.heap n0 zs366 pj62 f432) hZ (hw _ (own_w 87 rfl)) (hw _ (own_w 2 rfl)) (by decide) (by decide)) (g := (mkF m 367 #[.val (.int p1), .val (.int p2), .val (.int p3), .val (.int p4), .val (.int p5), .val (.int p6), .val x6, .val x7, .val x8, .val x9, .val (.ref b73), .val x66, .val x85, .val x105, .val (.ref (own_st p6 wOPEN wCLOSED wCANCELLED)), .val x15, .val x16, .val x17, .val x18, .val (.ref b216), .val x182, .val x202, .val x223, .val (.ref (own_st ((p6.toUInt32 >>> ((8 : Int32) &&& 31).toUInt32).toInt32) wOPEN wCLOSED wCANCELLED)), .val (.ref b287), .val (.ref b313), .val (.ref b351), .val (own_given x17 x8), .val (own_given x182 x66), .val (own_given x202 x85)] [x7, x7])) rfl (by rw [hml]; rfl) (argsL := [x7, x7]) (rest := []) (lenOf pd_13 rfl) rfl (by show 2 * 0 + _ ≤ _; exact Nat.le_of_eq rfl) (hb hby at_367) (fun _ _ => ⟨rfl, eq427, (by decide : 35 + 0 ≤ _), (by decide : 107 + 0 ≤ _)⟩)
  dsimp only [Pt.U, Pt.locs, Pt.cells, Pt.slots] at X433 l433 y433 z433 st433 hQ433
  subst l433 y433 z433
  obtain ⟨rfl, Nq433, eq433⟩ := hQ433
  have N433 := Fr.app N427 Nq433
  have pre434 : own_Go p e below S0 (T433.setTop (mkF m 375 #[.val (.int p1), .val (.int p2), .val (.int p3), .val (.int p4), .val (.int p5), .val (.int p6), .val x6, .val x7, .val x8, .val x9, .val (.ref b73), .val x66, .val x85, .val x105, .val (.ref (own_st p6 wOPEN wCLOSED wCANCELLED)), .val x15, .val x16, .val x17, .val x18, .val (.ref b216), .val x182, .val x202, .val x223, .val (.ref (own_st ((p6.toUInt32 >>> ((8 : Int32) &&& 31).toUInt32).toInt32) wOPEN wCLOSED wCANCELLED)), .val (.ref b287), .val (.ref b313), .val (.ref b351), .val (own_given x17 x8), .val (own_given x182 x66), .val (own_given x202 x85)] [(.ref b351)])) := by
    intro t kt
    refine pre428 t ?_
    refine st433 _ ?_
    show Steps p.tables e below (T433.setTop (mkF m 370 #[.val (.int p1), .val (.int p2), .val (.int p3), .val (.int p4), .val (.int p5), .val (.int p6), .val x6, .val x7, .val x8, .val x9, .val (.ref b73), .val x66, .val x85, .val x105, .val (.ref (own_st p6 wOPEN wCLOSED wCANCELLED)), .val x15, .val x16, .val x17, .val x18, .val (.ref b216), .val x182, .val x202, .val x223, .val (.ref (own_st ((p6.toUInt32 >>> ((8 : Int32) &&& 31).toUInt32).toInt32) wOPEN wCLOSED wCANCELLED)), .val (.ref b287), .val (.ref b313), .val (.ref b351), .val (own_given x17 x8), .val (own_given x182 x66), .val (own_given x202 x85)] [(.int (1 : Int32))])) _
    refine XS.ifNo X433.here hx rfl (hb hby at_370) rfl ((if0 _ _).trans (feq (by decide : ¬ ((1 : Int32) = (0 : Int32)))).1) ?_
    show Steps p.tables e below (T433.setTop (mkF m 373 #[.val (.int p1), .val (.int p2), .val (.int p3), .val (.int p4), .val (.int p5), .val (.int p6), .val x6, .val x7, .val x8, .val x9, .val (.ref b73), .val x66, .val x85, .val x105, .val (.ref (own_st p6 wOPEN wCLOSED wCANCELLED)), .val x15, .val x16, .val x17, .val x18, .val (.ref b216), .val x182, .val x202, .val x223, .val (.ref (own_st ((p6.toUInt32 >>> ((8 : Int32) &&& 31).toUInt32).toInt32) wOPEN wCLOSED wCANCELLED)), .val (.ref b287), .val (.ref b313), .val (.ref b351), .val (own_given x17 x8), .val (own_given x182 x66), .val (own_given x202 x85)] [])) _
    refine XS.aload X433.here hx rfl (hb hby at_373) rfl rfl ?_
    show Steps p.tables e below (T433.setTop (mkF m 375 #[.val (.int p1), .val (.int p2), .val (.int p3), .val (.int p4), .val (.int p5), .val (.int p6), .val x6, .val x7, .val x8, .val x9, .val (.ref b73), .val x66, .val x85, .val x105, .val (.ref (own_st p6 wOPEN wCLOSED wCANCELLED)), .val x15, .val x16, .val x17, .val x18, .val (.ref b216), .val x182, .val x202, .val x223, .val (.ref (own_st ((p6.toUInt32 >>> ((8 : Int32) &&& 31).toUInt32).toInt32) wOPEN wCLOSED wCANCELLED)), .val (.ref b287), .val (.ref b313), .val (.ref b351), .val (own_given x17 x8), .val (own_given x182 x66), .val (own_given x202 x85)] [(.ref b351)])) _
    exact kt
  obtain ⟨cq435, kq435, qa435, qb435, qc435⟩ := isOf hZ eq433 g353
  obtain ⟨_, _, ⟨T435, L435, k435, n435⟩, -, X435, ⟨Lc435, hQ435, l435, y435, z435⟩, st435⟩ := X433.virtualBack hx (y := (⟨"com/example/refertario/refertario/store/Episode", "idType", "()Ljava/lang/String;"⟩ : MethodName)) (z := (⟨"com/example/refertario/refertario/store/Episode", "idType", "()Ljava/lang/String;"⟩ : MethodName)) hown (mvT hZ (hw _ (own_w 98 rfl))) (mvT hZ (hw _ (own_w 99 rfl))) (notFace_of_selects (args := #[]) (mvT hZ (hw _ (own_w 101 rfl)))) (mvT hZ (hw _ (own_w 101 rfl))) (mvT hZ (hw _ (own_w 100 rfl))) (by decide) (backOf (W := 0) (rm17 l Z a0 hw [] b351 (own_given x17 x8) T350.heap n0 zs366 g356 (own_givenR pj206 pj63)) hZ (hw _ (own_w 102 rfl)) (hw _ (own_w 38 rfl)) (by decide) (by decide)) qa435 qc435 (g := (mkF m 375 #[.val (.int p1), .val (.int p2), .val (.int p3), .val (.int p4), .val (.int p5), .val (.int p6), .val x6, .val x7, .val x8, .val x9, .val (.ref b73), .val x66, .val x85, .val x105, .val (.ref (own_st p6 wOPEN wCLOSED wCANCELLED)), .val x15, .val x16, .val x17, .val x18, .val (.ref b216), .val x182, .val x202, .val x223, .val (.ref (own_st ((p6.toUInt32 >>> ((8 : Int32) &&& 31).toUInt32).toInt32) wOPEN wCLOSED wCANCELLED)), .val (.ref b287), .val (.ref b313), .val (.ref b351), .val (own_given x17 x8), .val (own_given x182 x66), .val (own_given x202 x85)] [(.ref b351)])) rfl (by rw [hml]; rfl) (Steps.refl _) (argsL := []) (rest := []) (lenOf pd_12 rfl) rfl (by show 2 * 0 + _ ≤ _; exact Nat.le_of_eq rfl) (hb hby at_375) (fun _ _ => ⟨rfl, eq433, (by decide : 35 + 0 ≤ _), (by decide : 107 + 0 ≤ _)⟩)
  dsimp only [Pt.U, Pt.locs, Pt.cells, Pt.slots] at X435 l435 y435 z435 st435 hQ435
  subst l435 y435 z435
  obtain ⟨rfl, Nq435, eq435⟩ := hQ435
  have N435 := Fr.app N433 Nq435
  have pre436 : own_Go p e below S0 (T435.setTop (mkF m 380 #[.val (.int p1), .val (.int p2), .val (.int p3), .val (.int p4), .val (.int p5), .val (.int p6), .val x6, .val x7, .val x8, .val x9, .val (.ref b73), .val x66, .val x85, .val x105, .val (.ref (own_st p6 wOPEN wCLOSED wCANCELLED)), .val x15, .val x16, .val x17, .val x18, .val (.ref b216), .val x182, .val x202, .val x223, .val (.ref (own_st ((p6.toUInt32 >>> ((8 : Int32) &&& 31).toUInt32).toInt32) wOPEN wCLOSED wCANCELLED)), .val (.ref b287), .val (.ref b313), .val (.ref b351), .val (own_given x17 x8), .val (own_given x182 x66), .val (own_given x202 x85)] [(own_given x17 x8), (own_given x17 x8)])) := by
    intro t kt
    refine pre434 t ?_
    refine st435.trans ?_
    show Steps p.tables e below (T435.setTop (mkF m 378 #[.val (.int p1), .val (.int p2), .val (.int p3), .val (.int p4), .val (.int p5), .val (.int p6), .val x6, .val x7, .val x8, .val x9, .val (.ref b73), .val x66, .val x85, .val x105, .val (.ref (own_st p6 wOPEN wCLOSED wCANCELLED)), .val x15, .val x16, .val x17, .val x18, .val (.ref b216), .val x182, .val x202, .val x223, .val (.ref (own_st ((p6.toUInt32 >>> ((8 : Int32) &&& 31).toUInt32).toInt32) wOPEN wCLOSED wCANCELLED)), .val (.ref b287), .val (.ref b313), .val (.ref b351), .val (own_given x17 x8), .val (own_given x182 x66), .val (own_given x202 x85)] [(own_given x17 x8)])) _
    refine XS.aload X435.here hx rfl (hb hby at_378) rfl (own_givenR pj206 pj63) ?_
    show Steps p.tables e below (T435.setTop (mkF m 380 #[.val (.int p1), .val (.int p2), .val (.int p3), .val (.int p4), .val (.int p5), .val (.int p6), .val x6, .val x7, .val x8, .val x9, .val (.ref b73), .val x66, .val x85, .val x105, .val (.ref (own_st p6 wOPEN wCLOSED wCANCELLED)), .val x15, .val x16, .val x17, .val x18, .val (.ref b216), .val x182, .val x202, .val x223, .val (.ref (own_st ((p6.toUInt32 >>> ((8 : Int32) &&& 31).toUInt32).toInt32) wOPEN wCLOSED wCANCELLED)), .val (.ref b287), .val (.ref b313), .val (.ref b351), .val (own_given x17 x8), .val (own_given x182 x66), .val (own_given x202 x85)] [(own_given x17 x8), (own_given x17 x8)])) _
    exact kt
  obtain ⟨_, _, ⟨T437, L437, k437, n437⟩, -, X437, ⟨Lc437, hQ437, l437, y437, z437⟩, st437⟩ := Jvm.LawKit.callS X435 hx (y := (⟨"com/example/refertario/refertario/store/EpisodeAdmittedAsPinLaw", "eq", "(Ljava/lang/String;Ljava/lang/String;)Z"⟩ : MethodName)) hown (mvT hZ (hw _ (own_w 85 rfl))) (mvT hZ (hw _ (own_w 86 rfl))) (mvT hZ (hw _ (own_w 2 rfl))) (mvT hZ (hw _ (own_w 87 rfl))) (by decide) (backOf (W := 0) (rm14 l Z a0 hw [] (own_given x17 x8) T350.heap n0 zs366 (own_givenR pj206 pj63) og317) hZ (hw _ (own_w 87 rfl)) (hw _ (own_w 2 rfl)) (by decide) (by decide)) (g := (mkF m 380 #[.val (.int p1), .val (.int p2), .val (.int p3), .val (.int p4), .val (.int p5), .val (.int p6), .val x6, .val x7, .val x8, .val x9, .val (.ref b73), .val x66, .val x85, .val x105, .val (.ref (own_st p6 wOPEN wCLOSED wCANCELLED)), .val x15, .val x16, .val x17, .val x18, .val (.ref b216), .val x182, .val x202, .val x223, .val (.ref (own_st ((p6.toUInt32 >>> ((8 : Int32) &&& 31).toUInt32).toInt32) wOPEN wCLOSED wCANCELLED)), .val (.ref b287), .val (.ref b313), .val (.ref b351), .val (own_given x17 x8), .val (own_given x182 x66), .val (own_given x202 x85)] [(own_given x17 x8), (own_given x17 x8)])) rfl (by rw [hml]; rfl) (argsL := [(own_given x17 x8), (own_given x17 x8)]) (rest := []) (lenOf pd_13 rfl) rfl (by show 2 * 0 + _ ≤ _; exact Nat.le_of_eq rfl) (hb hby at_380) (fun _ _ => ⟨rfl, eq435, (by decide : 35 + 0 ≤ _), (by decide : 107 + 0 ≤ _)⟩)
  dsimp only [Pt.U, Pt.locs, Pt.cells, Pt.slots] at X437 l437 y437 z437 st437 hQ437
  subst l437 y437 z437
  obtain ⟨rfl, Nq437, eq437⟩ := hQ437
  have N437 := Fr.app N435 Nq437
  have pre438 : own_Go p e below S0 (T437.setTop (mkF m 388 #[.val (.int p1), .val (.int p2), .val (.int p3), .val (.int p4), .val (.int p5), .val (.int p6), .val x6, .val x7, .val x8, .val x9, .val (.ref b73), .val x66, .val x85, .val x105, .val (.ref (own_st p6 wOPEN wCLOSED wCANCELLED)), .val x15, .val x16, .val x17, .val x18, .val (.ref b216), .val x182, .val x202, .val x223, .val (.ref (own_st ((p6.toUInt32 >>> ((8 : Int32) &&& 31).toUInt32).toInt32) wOPEN wCLOSED wCANCELLED)), .val (.ref b287), .val (.ref b313), .val (.ref b351), .val (own_given x17 x8), .val (own_given x182 x66), .val (own_given x202 x85)] [(.ref b351)])) := by
    intro t kt
    refine pre436 t ?_
    refine st437 _ ?_
    show Steps p.tables e below (T437.setTop (mkF m 383 #[.val (.int p1), .val (.int p2), .val (.int p3), .val (.int p4), .val (.int p5), .val (.int p6), .val x6, .val x7, .val x8, .val x9, .val (.ref b73), .val x66, .val x85, .val x105, .val (.ref (own_st p6 wOPEN wCLOSED wCANCELLED)), .val x15, .val x16, .val x17, .val x18, .val (.ref b216), .val x182, .val x202, .val x223, .val (.ref (own_st ((p6.toUInt32 >>> ((8 : Int32) &&& 31).toUInt32).toInt32) wOPEN wCLOSED wCANCELLED)), .val (.ref b287), .val (.ref b313), .val (.ref b351), .val (own_given x17 x8), .val (own_given x182 x66), .val (own_given x202 x85)] [(.int (1 : Int32))])) _
    refine XS.ifNo X437.here hx rfl (hb hby at_383) rfl ((if0 _ _).trans (feq (by decide : ¬ ((1 : Int32) = (0 : Int32)))).1) ?_
    show Steps p.tables e below (T437.setTop (mkF m 386 #[.val (.int p1), .val (.int p2), .val (.int p3), .val (.int p4), .val (.int p5), .val (.int p6), .val x6, .val x7, .val x8, .val x9, .val (.ref b73), .val x66, .val x85, .val x105, .val (.ref (own_st p6 wOPEN wCLOSED wCANCELLED)), .val x15, .val x16, .val x17, .val x18, .val (.ref b216), .val x182, .val x202, .val x223, .val (.ref (own_st ((p6.toUInt32 >>> ((8 : Int32) &&& 31).toUInt32).toInt32) wOPEN wCLOSED wCANCELLED)), .val (.ref b287), .val (.ref b313), .val (.ref b351), .val (own_given x17 x8), .val (own_given x182 x66), .val (own_given x202 x85)] [])) _
    refine XS.aload X437.here hx rfl (hb hby at_386) rfl rfl ?_
    show Steps p.tables e below (T437.setTop (mkF m 388 #[.val (.int p1), .val (.int p2), .val (.int p3), .val (.int p4), .val (.int p5), .val (.int p6), .val x6, .val x7, .val x8, .val x9, .val (.ref b73), .val x66, .val x85, .val x105, .val (.ref (own_st p6 wOPEN wCLOSED wCANCELLED)), .val x15, .val x16, .val x17, .val x18, .val (.ref b216), .val x182, .val x202, .val x223, .val (.ref (own_st ((p6.toUInt32 >>> ((8 : Int32) &&& 31).toUInt32).toInt32) wOPEN wCLOSED wCANCELLED)), .val (.ref b287), .val (.ref b313), .val (.ref b351), .val (own_given x17 x8), .val (own_given x182 x66), .val (own_given x202 x85)] [(.ref b351)])) _
    exact kt
  obtain ⟨cq439, kq439, qa439, qb439, qc439⟩ := isOf hZ eq437 g353
  obtain ⟨_, _, ⟨T439, L439, k439, n439⟩, -, X439, ⟨Lc439, hQ439, l439, y439, z439⟩, st439⟩ := X437.virtualBack hx (y := (⟨"com/example/refertario/refertario/store/Episode", "patient", "()Ljava/lang/String;"⟩ : MethodName)) (z := (⟨"com/example/refertario/refertario/store/Episode", "patient", "()Ljava/lang/String;"⟩ : MethodName)) hown (mvT hZ (hw _ (own_w 103 rfl))) (mvT hZ (hw _ (own_w 104 rfl))) (notFace_of_selects (args := #[]) (mvT hZ (hw _ (own_w 106 rfl)))) (mvT hZ (hw _ (own_w 106 rfl))) (mvT hZ (hw _ (own_w 105 rfl))) (by decide) (backOf (W := 0) (rm18 l Z a0 hw [] b351 x9 T350.heap n0 zs366 g357 pj64) hZ (hw _ (own_w 107 rfl)) (hw _ (own_w 38 rfl)) (by decide) (by decide)) qa439 qc439 (g := (mkF m 388 #[.val (.int p1), .val (.int p2), .val (.int p3), .val (.int p4), .val (.int p5), .val (.int p6), .val x6, .val x7, .val x8, .val x9, .val (.ref b73), .val x66, .val x85, .val x105, .val (.ref (own_st p6 wOPEN wCLOSED wCANCELLED)), .val x15, .val x16, .val x17, .val x18, .val (.ref b216), .val x182, .val x202, .val x223, .val (.ref (own_st ((p6.toUInt32 >>> ((8 : Int32) &&& 31).toUInt32).toInt32) wOPEN wCLOSED wCANCELLED)), .val (.ref b287), .val (.ref b313), .val (.ref b351), .val (own_given x17 x8), .val (own_given x182 x66), .val (own_given x202 x85)] [(.ref b351)])) rfl (by rw [hml]; rfl) (Steps.refl _) (argsL := []) (rest := []) (lenOf pd_12 rfl) rfl (by show 2 * 0 + _ ≤ _; exact Nat.le_of_eq rfl) (hb hby at_388) (fun _ _ => ⟨rfl, eq437, (by decide : 35 + 0 ≤ _), (by decide : 107 + 0 ≤ _)⟩)
  dsimp only [Pt.U, Pt.locs, Pt.cells, Pt.slots] at X439 l439 y439 z439 st439 hQ439
  subst l439 y439 z439
  obtain ⟨rfl, Nq439, eq439⟩ := hQ439
  have N439 := Fr.app N437 Nq439
  have pre440 : own_Go p e below S0 (T439.setTop (mkF m 393 #[.val (.int p1), .val (.int p2), .val (.int p3), .val (.int p4), .val (.int p5), .val (.int p6), .val x6, .val x7, .val x8, .val x9, .val (.ref b73), .val x66, .val x85, .val x105, .val (.ref (own_st p6 wOPEN wCLOSED wCANCELLED)), .val x15, .val x16, .val x17, .val x18, .val (.ref b216), .val x182, .val x202, .val x223, .val (.ref (own_st ((p6.toUInt32 >>> ((8 : Int32) &&& 31).toUInt32).toInt32) wOPEN wCLOSED wCANCELLED)), .val (.ref b287), .val (.ref b313), .val (.ref b351), .val (own_given x17 x8), .val (own_given x182 x66), .val (own_given x202 x85)] [x9, x9])) := by
    intro t kt
    refine pre438 t ?_
    refine st439.trans ?_
    show Steps p.tables e below (T439.setTop (mkF m 391 #[.val (.int p1), .val (.int p2), .val (.int p3), .val (.int p4), .val (.int p5), .val (.int p6), .val x6, .val x7, .val x8, .val x9, .val (.ref b73), .val x66, .val x85, .val x105, .val (.ref (own_st p6 wOPEN wCLOSED wCANCELLED)), .val x15, .val x16, .val x17, .val x18, .val (.ref b216), .val x182, .val x202, .val x223, .val (.ref (own_st ((p6.toUInt32 >>> ((8 : Int32) &&& 31).toUInt32).toInt32) wOPEN wCLOSED wCANCELLED)), .val (.ref b287), .val (.ref b313), .val (.ref b351), .val (own_given x17 x8), .val (own_given x182 x66), .val (own_given x202 x85)] [x9])) _
    refine XS.aload X439.here hx rfl (hb hby at_391) rfl pj64 ?_
    show Steps p.tables e below (T439.setTop (mkF m 393 #[.val (.int p1), .val (.int p2), .val (.int p3), .val (.int p4), .val (.int p5), .val (.int p6), .val x6, .val x7, .val x8, .val x9, .val (.ref b73), .val x66, .val x85, .val x105, .val (.ref (own_st p6 wOPEN wCLOSED wCANCELLED)), .val x15, .val x16, .val x17, .val x18, .val (.ref b216), .val x182, .val x202, .val x223, .val (.ref (own_st ((p6.toUInt32 >>> ((8 : Int32) &&& 31).toUInt32).toInt32) wOPEN wCLOSED wCANCELLED)), .val (.ref b287), .val (.ref b313), .val (.ref b351), .val (own_given x17 x8), .val (own_given x182 x66), .val (own_given x202 x85)] [x9, x9])) _
    exact kt
  have f441 := (own_OR.keep (own_OR.keep (own_OR.keep qj68 K72 ) Kj80 ) Kj100 )
  have f442 := (own_OR.keep (own_OR.keep (own_OR.keep (own_OR.keep f441 Kj120 ) Kj144 ) K215 ) Kj223 )
  have f443 := (own_OR.keep (own_OR.ext (own_OR.keep (own_OR.keep f442 Kj243 ) Kj263 ) E287) K300 )
  have f444 : own_OR Z T350.heap x9  := (own_OR.keep (own_OR.keep (own_OR.ext f443 E313) K327 ) K350 )
  obtain ⟨_, _, ⟨T445, L445, k445, n445⟩, -, X445, ⟨Lc445, hQ445, l445, y445, z445⟩, st445⟩ := Jvm.LawKit.callS X439 hx (y := (⟨"com/example/refertario/refertario/store/EpisodeAdmittedAsPinLaw", "eq", "(Ljava/lang/String;Ljava/lang/String;)Z"⟩ : MethodName)) hown (mvT hZ (hw _ (own_w 85 rfl))) (mvT hZ (hw _ (own_w 86 rfl))) (mvT hZ (hw _ (own_w 2 rfl))) (mvT hZ (hw _ (own_w 87 rfl))) (by decide) (backOf (W := 0) (rm14 l Z a0 hw [] x9 T350.heap n0 zs366 pj64 f444) hZ (hw _ (own_w 87 rfl)) (hw _ (own_w 2 rfl)) (by decide) (by decide)) (g := (mkF m 393 #[.val (.int p1), .val (.int p2), .val (.int p3), .val (.int p4), .val (.int p5), .val (.int p6), .val x6, .val x7, .val x8, .val x9, .val (.ref b73), .val x66, .val x85, .val x105, .val (.ref (own_st p6 wOPEN wCLOSED wCANCELLED)), .val x15, .val x16, .val x17, .val x18, .val (.ref b216), .val x182, .val x202, .val x223, .val (.ref (own_st ((p6.toUInt32 >>> ((8 : Int32) &&& 31).toUInt32).toInt32) wOPEN wCLOSED wCANCELLED)), .val (.ref b287), .val (.ref b313), .val (.ref b351), .val (own_given x17 x8), .val (own_given x182 x66), .val (own_given x202 x85)] [x9, x9])) rfl (by rw [hml]; rfl) (argsL := [x9, x9]) (rest := []) (lenOf pd_13 rfl) rfl (by show 2 * 0 + _ ≤ _; exact Nat.le_of_eq rfl) (hb hby at_393) (fun _ _ => ⟨rfl, eq439, (by decide : 35 + 0 ≤ _), (by decide : 107 + 0 ≤ _)⟩)
  dsimp only [Pt.U, Pt.locs, Pt.cells, Pt.slots] at X445 l445 y445 z445 st445 hQ445
  subst l445 y445 z445
  obtain ⟨rfl, Nq445, eq445⟩ := hQ445
  have N445 := Fr.app N439 Nq445
  have pre446 : own_Go p e below S0 (T445.setTop (mkF m 401 #[.val (.int p1), .val (.int p2), .val (.int p3), .val (.int p4), .val (.int p5), .val (.int p6), .val x6, .val x7, .val x8, .val x9, .val (.ref b73), .val x66, .val x85, .val x105, .val (.ref (own_st p6 wOPEN wCLOSED wCANCELLED)), .val x15, .val x16, .val x17, .val x18, .val (.ref b216), .val x182, .val x202, .val x223, .val (.ref (own_st ((p6.toUInt32 >>> ((8 : Int32) &&& 31).toUInt32).toInt32) wOPEN wCLOSED wCANCELLED)), .val (.ref b287), .val (.ref b313), .val (.ref b351), .val (own_given x17 x8), .val (own_given x182 x66), .val (own_given x202 x85)] [(.ref b351)])) := by
    intro t kt
    refine pre440 t ?_
    refine st445 _ ?_
    show Steps p.tables e below (T445.setTop (mkF m 396 #[.val (.int p1), .val (.int p2), .val (.int p3), .val (.int p4), .val (.int p5), .val (.int p6), .val x6, .val x7, .val x8, .val x9, .val (.ref b73), .val x66, .val x85, .val x105, .val (.ref (own_st p6 wOPEN wCLOSED wCANCELLED)), .val x15, .val x16, .val x17, .val x18, .val (.ref b216), .val x182, .val x202, .val x223, .val (.ref (own_st ((p6.toUInt32 >>> ((8 : Int32) &&& 31).toUInt32).toInt32) wOPEN wCLOSED wCANCELLED)), .val (.ref b287), .val (.ref b313), .val (.ref b351), .val (own_given x17 x8), .val (own_given x182 x66), .val (own_given x202 x85)] [(.int (1 : Int32))])) _
    refine XS.ifNo X445.here hx rfl (hb hby at_396) rfl ((if0 _ _).trans (feq (by decide : ¬ ((1 : Int32) = (0 : Int32)))).1) ?_
    show Steps p.tables e below (T445.setTop (mkF m 399 #[.val (.int p1), .val (.int p2), .val (.int p3), .val (.int p4), .val (.int p5), .val (.int p6), .val x6, .val x7, .val x8, .val x9, .val (.ref b73), .val x66, .val x85, .val x105, .val (.ref (own_st p6 wOPEN wCLOSED wCANCELLED)), .val x15, .val x16, .val x17, .val x18, .val (.ref b216), .val x182, .val x202, .val x223, .val (.ref (own_st ((p6.toUInt32 >>> ((8 : Int32) &&& 31).toUInt32).toInt32) wOPEN wCLOSED wCANCELLED)), .val (.ref b287), .val (.ref b313), .val (.ref b351), .val (own_given x17 x8), .val (own_given x182 x66), .val (own_given x202 x85)] [])) _
    refine XS.aload X445.here hx rfl (hb hby at_399) rfl rfl ?_
    show Steps p.tables e below (T445.setTop (mkF m 401 #[.val (.int p1), .val (.int p2), .val (.int p3), .val (.int p4), .val (.int p5), .val (.int p6), .val x6, .val x7, .val x8, .val x9, .val (.ref b73), .val x66, .val x85, .val x105, .val (.ref (own_st p6 wOPEN wCLOSED wCANCELLED)), .val x15, .val x16, .val x17, .val x18, .val (.ref b216), .val x182, .val x202, .val x223, .val (.ref (own_st ((p6.toUInt32 >>> ((8 : Int32) &&& 31).toUInt32).toInt32) wOPEN wCLOSED wCANCELLED)), .val (.ref b287), .val (.ref b313), .val (.ref b351), .val (own_given x17 x8), .val (own_given x182 x66), .val (own_given x202 x85)] [(.ref b351)])) _
    exact kt
  obtain ⟨cq447, kq447, qa447, qb447, qc447⟩ := isOf hZ eq445 g353
  obtain ⟨_, _, ⟨T447, L447, k447, n447⟩, -, X447, ⟨Lc447, hQ447, l447, y447, z447⟩, st447⟩ := X445.virtualBack hx (y := (⟨"com/example/refertario/refertario/store/Episode", "patientClass", "()Ljava/lang/String;"⟩ : MethodName)) (z := (⟨"com/example/refertario/refertario/store/Episode", "patientClass", "()Ljava/lang/String;"⟩ : MethodName)) hown (mvT hZ (hw _ (own_w 108 rfl))) (mvT hZ (hw _ (own_w 109 rfl))) (notFace_of_selects (args := #[]) (mvT hZ (hw _ (own_w 111 rfl)))) (mvT hZ (hw _ (own_w 111 rfl))) (mvT hZ (hw _ (own_w 110 rfl))) (by decide) (backOf (W := 0) (rm19 l Z a0 hw [] b351 (.ref b73) T350.heap n0 zs366 g358 rfl) hZ (hw _ (own_w 112 rfl)) (hw _ (own_w 38 rfl)) (by decide) (by decide)) qa447 qc447 (g := (mkF m 401 #[.val (.int p1), .val (.int p2), .val (.int p3), .val (.int p4), .val (.int p5), .val (.int p6), .val x6, .val x7, .val x8, .val x9, .val (.ref b73), .val x66, .val x85, .val x105, .val (.ref (own_st p6 wOPEN wCLOSED wCANCELLED)), .val x15, .val x16, .val x17, .val x18, .val (.ref b216), .val x182, .val x202, .val x223, .val (.ref (own_st ((p6.toUInt32 >>> ((8 : Int32) &&& 31).toUInt32).toInt32) wOPEN wCLOSED wCANCELLED)), .val (.ref b287), .val (.ref b313), .val (.ref b351), .val (own_given x17 x8), .val (own_given x182 x66), .val (own_given x202 x85)] [(.ref b351)])) rfl (by rw [hml]; rfl) (Steps.refl _) (argsL := []) (rest := []) (lenOf pd_12 rfl) rfl (by show 2 * 0 + _ ≤ _; exact Nat.le_of_eq rfl) (hb hby at_401) (fun _ _ => ⟨rfl, eq445, (by decide : 35 + 0 ≤ _), (by decide : 107 + 0 ≤ _)⟩)
  dsimp only [Pt.U, Pt.locs, Pt.cells, Pt.slots] at X447 l447 y447 z447 st447 hQ447
  subst l447 y447 z447
  obtain ⟨rfl, Nq447, eq447⟩ := hQ447
  have N447 := Fr.app N445 Nq447
  have pre448 : own_Go p e below S0 (T447.setTop (mkF m 406 #[.val (.int p1), .val (.int p2), .val (.int p3), .val (.int p4), .val (.int p5), .val (.int p6), .val x6, .val x7, .val x8, .val x9, .val (.ref b73), .val x66, .val x85, .val x105, .val (.ref (own_st p6 wOPEN wCLOSED wCANCELLED)), .val x15, .val x16, .val x17, .val x18, .val (.ref b216), .val x182, .val x202, .val x223, .val (.ref (own_st ((p6.toUInt32 >>> ((8 : Int32) &&& 31).toUInt32).toInt32) wOPEN wCLOSED wCANCELLED)), .val (.ref b287), .val (.ref b313), .val (.ref b351), .val (own_given x17 x8), .val (own_given x182 x66), .val (own_given x202 x85)] [(.ref b73), (.ref b73)])) := by
    intro t kt
    refine pre446 t ?_
    refine st447.trans ?_
    show Steps p.tables e below (T447.setTop (mkF m 404 #[.val (.int p1), .val (.int p2), .val (.int p3), .val (.int p4), .val (.int p5), .val (.int p6), .val x6, .val x7, .val x8, .val x9, .val (.ref b73), .val x66, .val x85, .val x105, .val (.ref (own_st p6 wOPEN wCLOSED wCANCELLED)), .val x15, .val x16, .val x17, .val x18, .val (.ref b216), .val x182, .val x202, .val x223, .val (.ref (own_st ((p6.toUInt32 >>> ((8 : Int32) &&& 31).toUInt32).toInt32) wOPEN wCLOSED wCANCELLED)), .val (.ref b287), .val (.ref b313), .val (.ref b351), .val (own_given x17 x8), .val (own_given x182 x66), .val (own_given x202 x85)] [(.ref b73)])) _
    refine XS.aload X447.here hx rfl (hb hby at_404) rfl rfl ?_
    show Steps p.tables e below (T447.setTop (mkF m 406 #[.val (.int p1), .val (.int p2), .val (.int p3), .val (.int p4), .val (.int p5), .val (.int p6), .val x6, .val x7, .val x8, .val x9, .val (.ref b73), .val x66, .val x85, .val x105, .val (.ref (own_st p6 wOPEN wCLOSED wCANCELLED)), .val x15, .val x16, .val x17, .val x18, .val (.ref b216), .val x182, .val x202, .val x223, .val (.ref (own_st ((p6.toUInt32 >>> ((8 : Int32) &&& 31).toUInt32).toInt32) wOPEN wCLOSED wCANCELLED)), .val (.ref b287), .val (.ref b313), .val (.ref b351), .val (own_given x17 x8), .val (own_given x182 x66), .val (own_given x202 x85)] [(.ref b73), (.ref b73)])) _
    exact kt
  have f449 := (own_OR.keep (own_OR.keep (own_OR.keep oc78 Kj80 ) Kj100 ) Kj120 )
  have f450 := (own_OR.keep (own_OR.keep (own_OR.keep (own_OR.keep f449 Kj144 ) K215 ) Kj223 ) Kj243 )
  have f451 := (own_OR.ext (own_OR.keep (own_OR.ext (own_OR.keep f450 Kj263 ) E287) K300 ) E313)
  have f452 : own_OR Z T350.heap (.ref b73)  := (own_OR.keep (own_OR.keep f451 K327 ) K350 )
  obtain ⟨_, _, ⟨T453, L453, k453, n453⟩, -, X453, ⟨Lc453, hQ453, l453, y453, z453⟩, st453⟩ := Jvm.LawKit.callS X447 hx (y := (⟨"com/example/refertario/refertario/store/EpisodeAdmittedAsPinLaw", "eq", "(Ljava/lang/String;Ljava/lang/String;)Z"⟩ : MethodName)) hown (mvT hZ (hw _ (own_w 85 rfl))) (mvT hZ (hw _ (own_w 86 rfl))) (mvT hZ (hw _ (own_w 2 rfl))) (mvT hZ (hw _ (own_w 87 rfl))) (by decide) (backOf (W := 0) (rm14 l Z a0 hw [] (.ref b73) T350.heap n0 zs366 rfl f452) hZ (hw _ (own_w 87 rfl)) (hw _ (own_w 2 rfl)) (by decide) (by decide)) (g := (mkF m 406 #[.val (.int p1), .val (.int p2), .val (.int p3), .val (.int p4), .val (.int p5), .val (.int p6), .val x6, .val x7, .val x8, .val x9, .val (.ref b73), .val x66, .val x85, .val x105, .val (.ref (own_st p6 wOPEN wCLOSED wCANCELLED)), .val x15, .val x16, .val x17, .val x18, .val (.ref b216), .val x182, .val x202, .val x223, .val (.ref (own_st ((p6.toUInt32 >>> ((8 : Int32) &&& 31).toUInt32).toInt32) wOPEN wCLOSED wCANCELLED)), .val (.ref b287), .val (.ref b313), .val (.ref b351), .val (own_given x17 x8), .val (own_given x182 x66), .val (own_given x202 x85)] [(.ref b73), (.ref b73)])) rfl (by rw [hml]; rfl) (argsL := [(.ref b73), (.ref b73)]) (rest := []) (lenOf pd_13 rfl) rfl (by show 2 * 0 + _ ≤ _; exact Nat.le_of_eq rfl) (hb hby at_406) (fun _ _ => ⟨rfl, eq447, (by decide : 35 + 0 ≤ _), (by decide : 107 + 0 ≤ _)⟩)
  dsimp only [Pt.U, Pt.locs, Pt.cells, Pt.slots] at X453 l453 y453 z453 st453 hQ453
  subst l453 y453 z453
  obtain ⟨rfl, Nq453, eq453⟩ := hQ453
  have N453 := Fr.app N447 Nq453
  have pre454 : own_Go p e below S0 (T453.setTop (mkF m 414 #[.val (.int p1), .val (.int p2), .val (.int p3), .val (.int p4), .val (.int p5), .val (.int p6), .val x6, .val x7, .val x8, .val x9, .val (.ref b73), .val x66, .val x85, .val x105, .val (.ref (own_st p6 wOPEN wCLOSED wCANCELLED)), .val x15, .val x16, .val x17, .val x18, .val (.ref b216), .val x182, .val x202, .val x223, .val (.ref (own_st ((p6.toUInt32 >>> ((8 : Int32) &&& 31).toUInt32).toInt32) wOPEN wCLOSED wCANCELLED)), .val (.ref b287), .val (.ref b313), .val (.ref b351), .val (own_given x17 x8), .val (own_given x182 x66), .val (own_given x202 x85)] [(.ref b351)])) := by
    intro t kt
    refine pre448 t ?_
    refine st453 _ ?_
    show Steps p.tables e below (T453.setTop (mkF m 409 #[.val (.int p1), .val (.int p2), .val (.int p3), .val (.int p4), .val (.int p5), .val (.int p6), .val x6, .val x7, .val x8, .val x9, .val (.ref b73), .val x66, .val x85, .val x105, .val (.ref (own_st p6 wOPEN wCLOSED wCANCELLED)), .val x15, .val x16, .val x17, .val x18, .val (.ref b216), .val x182, .val x202, .val x223, .val (.ref (own_st ((p6.toUInt32 >>> ((8 : Int32) &&& 31).toUInt32).toInt32) wOPEN wCLOSED wCANCELLED)), .val (.ref b287), .val (.ref b313), .val (.ref b351), .val (own_given x17 x8), .val (own_given x182 x66), .val (own_given x202 x85)] [(.int (1 : Int32))])) _
    refine XS.ifNo X453.here hx rfl (hb hby at_409) rfl ((if0 _ _).trans (feq (by decide : ¬ ((1 : Int32) = (0 : Int32)))).1) ?_
    show Steps p.tables e below (T453.setTop (mkF m 412 #[.val (.int p1), .val (.int p2), .val (.int p3), .val (.int p4), .val (.int p5), .val (.int p6), .val x6, .val x7, .val x8, .val x9, .val (.ref b73), .val x66, .val x85, .val x105, .val (.ref (own_st p6 wOPEN wCLOSED wCANCELLED)), .val x15, .val x16, .val x17, .val x18, .val (.ref b216), .val x182, .val x202, .val x223, .val (.ref (own_st ((p6.toUInt32 >>> ((8 : Int32) &&& 31).toUInt32).toInt32) wOPEN wCLOSED wCANCELLED)), .val (.ref b287), .val (.ref b313), .val (.ref b351), .val (own_given x17 x8), .val (own_given x182 x66), .val (own_given x202 x85)] [])) _
    refine XS.aload X453.here hx rfl (hb hby at_412) rfl rfl ?_
    show Steps p.tables e below (T453.setTop (mkF m 414 #[.val (.int p1), .val (.int p2), .val (.int p3), .val (.int p4), .val (.int p5), .val (.int p6), .val x6, .val x7, .val x8, .val x9, .val (.ref b73), .val x66, .val x85, .val x105, .val (.ref (own_st p6 wOPEN wCLOSED wCANCELLED)), .val x15, .val x16, .val x17, .val x18, .val (.ref b216), .val x182, .val x202, .val x223, .val (.ref (own_st ((p6.toUInt32 >>> ((8 : Int32) &&& 31).toUInt32).toInt32) wOPEN wCLOSED wCANCELLED)), .val (.ref b287), .val (.ref b313), .val (.ref b351), .val (own_given x17 x8), .val (own_given x182 x66), .val (own_given x202 x85)] [(.ref b351)])) _
    exact kt
  obtain ⟨cq455, kq455, qa455, qb455, qc455⟩ := isOf hZ eq453 g353
  obtain ⟨_, _, ⟨T455, L455, k455, n455⟩, -, X455, ⟨Lc455, hQ455, l455, y455, z455⟩, st455⟩ := X453.virtualBack hx (y := (⟨"com/example/refertario/refertario/store/Episode", "pointOfCare", "()Ljava/lang/String;"⟩ : MethodName)) (z := (⟨"com/example/refertario/refertario/store/Episode", "pointOfCare", "()Ljava/lang/String;"⟩ : MethodName)) hown (mvT hZ (hw _ (own_w 113 rfl))) (mvT hZ (hw _ (own_w 114 rfl))) (notFace_of_selects (args := #[]) (mvT hZ (hw _ (own_w 116 rfl)))) (mvT hZ (hw _ (own_w 116 rfl))) (mvT hZ (hw _ (own_w 115 rfl))) (by decide) (backOf (W := 0) (rm20 l Z a0 hw [] b351 (own_given x182 x66) T350.heap n0 zs366 g359 (own_givenR pj239 pj96)) hZ (hw _ (own_w 117 rfl)) (hw _ (own_w 38 rfl)) (by decide) (by decide)) qa455 qc455 (g := (mkF m 414 #[.val (.int p1), .val (.int p2), .val (.int p3), .val (.int p4), .val (.int p5), .val (.int p6), .val x6, .val x7, .val x8, .val x9, .val (.ref b73), .val x66, .val x85, .val x105, .val (.ref (own_st p6 wOPEN wCLOSED wCANCELLED)), .val x15, .val x16, .val x17, .val x18, .val (.ref b216), .val x182, .val x202, .val x223, .val (.ref (own_st ((p6.toUInt32 >>> ((8 : Int32) &&& 31).toUInt32).toInt32) wOPEN wCLOSED wCANCELLED)), .val (.ref b287), .val (.ref b313), .val (.ref b351), .val (own_given x17 x8), .val (own_given x182 x66), .val (own_given x202 x85)] [(.ref b351)])) rfl (by rw [hml]; rfl) (Steps.refl _) (argsL := []) (rest := []) (lenOf pd_12 rfl) rfl (by show 2 * 0 + _ ≤ _; exact Nat.le_of_eq rfl) (hb hby at_414) (fun _ _ => ⟨rfl, eq453, (by decide : 35 + 0 ≤ _), (by decide : 107 + 0 ≤ _)⟩)
  dsimp only [Pt.U, Pt.locs, Pt.cells, Pt.slots] at X455 l455 y455 z455 st455 hQ455
  subst l455 y455 z455
  obtain ⟨rfl, Nq455, eq455⟩ := hQ455
  have N455 := Fr.app N453 Nq455
  have pre456 : own_Go p e below S0 (T455.setTop (mkF m 419 #[.val (.int p1), .val (.int p2), .val (.int p3), .val (.int p4), .val (.int p5), .val (.int p6), .val x6, .val x7, .val x8, .val x9, .val (.ref b73), .val x66, .val x85, .val x105, .val (.ref (own_st p6 wOPEN wCLOSED wCANCELLED)), .val x15, .val x16, .val x17, .val x18, .val (.ref b216), .val x182, .val x202, .val x223, .val (.ref (own_st ((p6.toUInt32 >>> ((8 : Int32) &&& 31).toUInt32).toInt32) wOPEN wCLOSED wCANCELLED)), .val (.ref b287), .val (.ref b313), .val (.ref b351), .val (own_given x17 x8), .val (own_given x182 x66), .val (own_given x202 x85)] [(own_given x182 x66), (own_given x182 x66)])) := by
    intro t kt
    refine pre454 t ?_
    refine st455.trans ?_
    show Steps p.tables e below (T455.setTop (mkF m 417 #[.val (.int p1), .val (.int p2), .val (.int p3), .val (.int p4), .val (.int p5), .val (.int p6), .val x6, .val x7, .val x8, .val x9, .val (.ref b73), .val x66, .val x85, .val x105, .val (.ref (own_st p6 wOPEN wCLOSED wCANCELLED)), .val x15, .val x16, .val x17, .val x18, .val (.ref b216), .val x182, .val x202, .val x223, .val (.ref (own_st ((p6.toUInt32 >>> ((8 : Int32) &&& 31).toUInt32).toInt32) wOPEN wCLOSED wCANCELLED)), .val (.ref b287), .val (.ref b313), .val (.ref b351), .val (own_given x17 x8), .val (own_given x182 x66), .val (own_given x202 x85)] [(own_given x182 x66)])) _
    refine XS.aload X455.here hx rfl (hb hby at_417) rfl (own_givenR pj239 pj96) ?_
    show Steps p.tables e below (T455.setTop (mkF m 419 #[.val (.int p1), .val (.int p2), .val (.int p3), .val (.int p4), .val (.int p5), .val (.int p6), .val x6, .val x7, .val x8, .val x9, .val (.ref b73), .val x66, .val x85, .val x105, .val (.ref (own_st p6 wOPEN wCLOSED wCANCELLED)), .val x15, .val x16, .val x17, .val x18, .val (.ref b216), .val x182, .val x202, .val x223, .val (.ref (own_st ((p6.toUInt32 >>> ((8 : Int32) &&& 31).toUInt32).toInt32) wOPEN wCLOSED wCANCELLED)), .val (.ref b287), .val (.ref b313), .val (.ref b351), .val (own_given x17 x8), .val (own_given x182 x66), .val (own_given x202 x85)] [(own_given x182 x66), (own_given x182 x66)])) _
    exact kt
  obtain ⟨_, _, ⟨T457, L457, k457, n457⟩, -, X457, ⟨Lc457, hQ457, l457, y457, z457⟩, st457⟩ := Jvm.LawKit.callS X455 hx (y := (⟨"com/example/refertario/refertario/store/EpisodeAdmittedAsPinLaw", "eq", "(Ljava/lang/String;Ljava/lang/String;)Z"⟩ : MethodName)) hown (mvT hZ (hw _ (own_w 85 rfl))) (mvT hZ (hw _ (own_w 86 rfl))) (mvT hZ (hw _ (own_w 2 rfl))) (mvT hZ (hw _ (own_w 87 rfl))) (by decide) (backOf (W := 0) (rm14 l Z a0 hw [] (own_given x182 x66) T350.heap n0 zs366 (own_givenR pj239 pj96) og331) hZ (hw _ (own_w 87 rfl)) (hw _ (own_w 2 rfl)) (by decide) (by decide)) (g := (mkF m 419 #[.val (.int p1), .val (.int p2), .val (.int p3), .val (.int p4), .val (.int p5), .val (.int p6), .val x6, .val x7, .val x8, .val x9, .val (.ref b73), .val x66, .val x85, .val x105, .val (.ref (own_st p6 wOPEN wCLOSED wCANCELLED)), .val x15, .val x16, .val x17, .val x18, .val (.ref b216), .val x182, .val x202, .val x223, .val (.ref (own_st ((p6.toUInt32 >>> ((8 : Int32) &&& 31).toUInt32).toInt32) wOPEN wCLOSED wCANCELLED)), .val (.ref b287), .val (.ref b313), .val (.ref b351), .val (own_given x17 x8), .val (own_given x182 x66), .val (own_given x202 x85)] [(own_given x182 x66), (own_given x182 x66)])) rfl (by rw [hml]; rfl) (argsL := [(own_given x182 x66), (own_given x182 x66)]) (rest := []) (lenOf pd_13 rfl) rfl (by show 2 * 0 + _ ≤ _; exact Nat.le_of_eq rfl) (hb hby at_419) (fun _ _ => ⟨rfl, eq455, (by decide : 35 + 0 ≤ _), (by decide : 107 + 0 ≤ _)⟩)
  dsimp only [Pt.U, Pt.locs, Pt.cells, Pt.slots] at X457 l457 y457 z457 st457 hQ457
  subst l457 y457 z457
  obtain ⟨rfl, Nq457, eq457⟩ := hQ457
  have N457 := Fr.app N455 Nq457
  have pre458 : own_Go p e below S0 (T457.setTop (mkF m 427 #[.val (.int p1), .val (.int p2), .val (.int p3), .val (.int p4), .val (.int p5), .val (.int p6), .val x6, .val x7, .val x8, .val x9, .val (.ref b73), .val x66, .val x85, .val x105, .val (.ref (own_st p6 wOPEN wCLOSED wCANCELLED)), .val x15, .val x16, .val x17, .val x18, .val (.ref b216), .val x182, .val x202, .val x223, .val (.ref (own_st ((p6.toUInt32 >>> ((8 : Int32) &&& 31).toUInt32).toInt32) wOPEN wCLOSED wCANCELLED)), .val (.ref b287), .val (.ref b313), .val (.ref b351), .val (own_given x17 x8), .val (own_given x182 x66), .val (own_given x202 x85)] [(.ref b351)])) := by
    intro t kt
    refine pre456 t ?_
    refine st457 _ ?_
    show Steps p.tables e below (T457.setTop (mkF m 422 #[.val (.int p1), .val (.int p2), .val (.int p3), .val (.int p4), .val (.int p5), .val (.int p6), .val x6, .val x7, .val x8, .val x9, .val (.ref b73), .val x66, .val x85, .val x105, .val (.ref (own_st p6 wOPEN wCLOSED wCANCELLED)), .val x15, .val x16, .val x17, .val x18, .val (.ref b216), .val x182, .val x202, .val x223, .val (.ref (own_st ((p6.toUInt32 >>> ((8 : Int32) &&& 31).toUInt32).toInt32) wOPEN wCLOSED wCANCELLED)), .val (.ref b287), .val (.ref b313), .val (.ref b351), .val (own_given x17 x8), .val (own_given x182 x66), .val (own_given x202 x85)] [(.int (1 : Int32))])) _
    refine XS.ifNo X457.here hx rfl (hb hby at_422) rfl ((if0 _ _).trans (feq (by decide : ¬ ((1 : Int32) = (0 : Int32)))).1) ?_
    show Steps p.tables e below (T457.setTop (mkF m 425 #[.val (.int p1), .val (.int p2), .val (.int p3), .val (.int p4), .val (.int p5), .val (.int p6), .val x6, .val x7, .val x8, .val x9, .val (.ref b73), .val x66, .val x85, .val x105, .val (.ref (own_st p6 wOPEN wCLOSED wCANCELLED)), .val x15, .val x16, .val x17, .val x18, .val (.ref b216), .val x182, .val x202, .val x223, .val (.ref (own_st ((p6.toUInt32 >>> ((8 : Int32) &&& 31).toUInt32).toInt32) wOPEN wCLOSED wCANCELLED)), .val (.ref b287), .val (.ref b313), .val (.ref b351), .val (own_given x17 x8), .val (own_given x182 x66), .val (own_given x202 x85)] [])) _
    refine XS.aload X457.here hx rfl (hb hby at_425) rfl rfl ?_
    show Steps p.tables e below (T457.setTop (mkF m 427 #[.val (.int p1), .val (.int p2), .val (.int p3), .val (.int p4), .val (.int p5), .val (.int p6), .val x6, .val x7, .val x8, .val x9, .val (.ref b73), .val x66, .val x85, .val x105, .val (.ref (own_st p6 wOPEN wCLOSED wCANCELLED)), .val x15, .val x16, .val x17, .val x18, .val (.ref b216), .val x182, .val x202, .val x223, .val (.ref (own_st ((p6.toUInt32 >>> ((8 : Int32) &&& 31).toUInt32).toInt32) wOPEN wCLOSED wCANCELLED)), .val (.ref b287), .val (.ref b313), .val (.ref b351), .val (own_given x17 x8), .val (own_given x182 x66), .val (own_given x202 x85)] [(.ref b351)])) _
    exact kt
  obtain ⟨cq459, kq459, qa459, qb459, qc459⟩ := isOf hZ eq457 g353
  obtain ⟨_, _, ⟨T459, L459, k459, n459⟩, -, X459, ⟨Lc459, hQ459, l459, y459, z459⟩, st459⟩ := X457.virtualBack hx (y := (⟨"com/example/refertario/refertario/store/Episode", "admitted", "()Ljava/lang/String;"⟩ : MethodName)) (z := (⟨"com/example/refertario/refertario/store/Episode", "admitted", "()Ljava/lang/String;"⟩ : MethodName)) hown (mvT hZ (hw _ (own_w 118 rfl))) (mvT hZ (hw _ (own_w 119 rfl))) (notFace_of_selects (args := #[]) (mvT hZ (hw _ (own_w 121 rfl)))) (mvT hZ (hw _ (own_w 121 rfl))) (mvT hZ (hw _ (own_w 120 rfl))) (by decide) (backOf (W := 0) (rm21 l Z a0 hw [] b351 (own_given x202 x85) T350.heap n0 zs366 g360 (own_givenR pj259 pj116)) hZ (hw _ (own_w 122 rfl)) (hw _ (own_w 38 rfl)) (by decide) (by decide)) qa459 qc459 (g := (mkF m 427 #[.val (.int p1), .val (.int p2), .val (.int p3), .val (.int p4), .val (.int p5), .val (.int p6), .val x6, .val x7, .val x8, .val x9, .val (.ref b73), .val x66, .val x85, .val x105, .val (.ref (own_st p6 wOPEN wCLOSED wCANCELLED)), .val x15, .val x16, .val x17, .val x18, .val (.ref b216), .val x182, .val x202, .val x223, .val (.ref (own_st ((p6.toUInt32 >>> ((8 : Int32) &&& 31).toUInt32).toInt32) wOPEN wCLOSED wCANCELLED)), .val (.ref b287), .val (.ref b313), .val (.ref b351), .val (own_given x17 x8), .val (own_given x182 x66), .val (own_given x202 x85)] [(.ref b351)])) rfl (by rw [hml]; rfl) (Steps.refl _) (argsL := []) (rest := []) (lenOf pd_12 rfl) rfl (by show 2 * 0 + _ ≤ _; exact Nat.le_of_eq rfl) (hb hby at_427) (fun _ _ => ⟨rfl, eq457, (by decide : 35 + 0 ≤ _), (by decide : 107 + 0 ≤ _)⟩)
  dsimp only [Pt.U, Pt.locs, Pt.cells, Pt.slots] at X459 l459 y459 z459 st459 hQ459
  subst l459 y459 z459
  obtain ⟨rfl, Nq459, eq459⟩ := hQ459
  have N459 := Fr.app N457 Nq459
  have pre460 : own_Go p e below S0 (T459.setTop (mkF m 432 #[.val (.int p1), .val (.int p2), .val (.int p3), .val (.int p4), .val (.int p5), .val (.int p6), .val x6, .val x7, .val x8, .val x9, .val (.ref b73), .val x66, .val x85, .val x105, .val (.ref (own_st p6 wOPEN wCLOSED wCANCELLED)), .val x15, .val x16, .val x17, .val x18, .val (.ref b216), .val x182, .val x202, .val x223, .val (.ref (own_st ((p6.toUInt32 >>> ((8 : Int32) &&& 31).toUInt32).toInt32) wOPEN wCLOSED wCANCELLED)), .val (.ref b287), .val (.ref b313), .val (.ref b351), .val (own_given x17 x8), .val (own_given x182 x66), .val (own_given x202 x85)] [(own_given x202 x85), (own_given x202 x85)])) := by
    intro t kt
    refine pre458 t ?_
    refine st459.trans ?_
    show Steps p.tables e below (T459.setTop (mkF m 430 #[.val (.int p1), .val (.int p2), .val (.int p3), .val (.int p4), .val (.int p5), .val (.int p6), .val x6, .val x7, .val x8, .val x9, .val (.ref b73), .val x66, .val x85, .val x105, .val (.ref (own_st p6 wOPEN wCLOSED wCANCELLED)), .val x15, .val x16, .val x17, .val x18, .val (.ref b216), .val x182, .val x202, .val x223, .val (.ref (own_st ((p6.toUInt32 >>> ((8 : Int32) &&& 31).toUInt32).toInt32) wOPEN wCLOSED wCANCELLED)), .val (.ref b287), .val (.ref b313), .val (.ref b351), .val (own_given x17 x8), .val (own_given x182 x66), .val (own_given x202 x85)] [(own_given x202 x85)])) _
    refine XS.aload X459.here hx rfl (hb hby at_430) rfl (own_givenR pj259 pj116) ?_
    show Steps p.tables e below (T459.setTop (mkF m 432 #[.val (.int p1), .val (.int p2), .val (.int p3), .val (.int p4), .val (.int p5), .val (.int p6), .val x6, .val x7, .val x8, .val x9, .val (.ref b73), .val x66, .val x85, .val x105, .val (.ref (own_st p6 wOPEN wCLOSED wCANCELLED)), .val x15, .val x16, .val x17, .val x18, .val (.ref b216), .val x182, .val x202, .val x223, .val (.ref (own_st ((p6.toUInt32 >>> ((8 : Int32) &&& 31).toUInt32).toInt32) wOPEN wCLOSED wCANCELLED)), .val (.ref b287), .val (.ref b313), .val (.ref b351), .val (own_given x17 x8), .val (own_given x182 x66), .val (own_given x202 x85)] [(own_given x202 x85), (own_given x202 x85)])) _
    exact kt
  obtain ⟨_, _, ⟨T461, L461, k461, n461⟩, -, X461, ⟨Lc461, hQ461, l461, y461, z461⟩, st461⟩ := Jvm.LawKit.callS X459 hx (y := (⟨"com/example/refertario/refertario/store/EpisodeAdmittedAsPinLaw", "eq", "(Ljava/lang/String;Ljava/lang/String;)Z"⟩ : MethodName)) hown (mvT hZ (hw _ (own_w 85 rfl))) (mvT hZ (hw _ (own_w 86 rfl))) (mvT hZ (hw _ (own_w 2 rfl))) (mvT hZ (hw _ (own_w 87 rfl))) (by decide) (backOf (W := 0) (rm14 l Z a0 hw [] (own_given x202 x85) T350.heap n0 zs366 (own_givenR pj259 pj116) og345) hZ (hw _ (own_w 87 rfl)) (hw _ (own_w 2 rfl)) (by decide) (by decide)) (g := (mkF m 432 #[.val (.int p1), .val (.int p2), .val (.int p3), .val (.int p4), .val (.int p5), .val (.int p6), .val x6, .val x7, .val x8, .val x9, .val (.ref b73), .val x66, .val x85, .val x105, .val (.ref (own_st p6 wOPEN wCLOSED wCANCELLED)), .val x15, .val x16, .val x17, .val x18, .val (.ref b216), .val x182, .val x202, .val x223, .val (.ref (own_st ((p6.toUInt32 >>> ((8 : Int32) &&& 31).toUInt32).toInt32) wOPEN wCLOSED wCANCELLED)), .val (.ref b287), .val (.ref b313), .val (.ref b351), .val (own_given x17 x8), .val (own_given x182 x66), .val (own_given x202 x85)] [(own_given x202 x85), (own_given x202 x85)])) rfl (by rw [hml]; rfl) (argsL := [(own_given x202 x85), (own_given x202 x85)]) (rest := []) (lenOf pd_13 rfl) rfl (by show 2 * 0 + _ ≤ _; exact Nat.le_of_eq rfl) (hb hby at_432) (fun _ _ => ⟨rfl, eq459, (by decide : 35 + 0 ≤ _), (by decide : 107 + 0 ≤ _)⟩)
  dsimp only [Pt.U, Pt.locs, Pt.cells, Pt.slots] at X461 l461 y461 z461 st461 hQ461
  subst l461 y461 z461
  obtain ⟨rfl, Nq461, eq461⟩ := hQ461
  have N461 := Fr.app N459 Nq461
  have pre462 : own_Go p e below S0 (T461.setTop (mkF m 440 #[.val (.int p1), .val (.int p2), .val (.int p3), .val (.int p4), .val (.int p5), .val (.int p6), .val x6, .val x7, .val x8, .val x9, .val (.ref b73), .val x66, .val x85, .val x105, .val (.ref (own_st p6 wOPEN wCLOSED wCANCELLED)), .val x15, .val x16, .val x17, .val x18, .val (.ref b216), .val x182, .val x202, .val x223, .val (.ref (own_st ((p6.toUInt32 >>> ((8 : Int32) &&& 31).toUInt32).toInt32) wOPEN wCLOSED wCANCELLED)), .val (.ref b287), .val (.ref b313), .val (.ref b351), .val (own_given x17 x8), .val (own_given x182 x66), .val (own_given x202 x85)] [(.ref b351)])) := by
    intro t kt
    refine pre460 t ?_
    refine st461 _ ?_
    show Steps p.tables e below (T461.setTop (mkF m 435 #[.val (.int p1), .val (.int p2), .val (.int p3), .val (.int p4), .val (.int p5), .val (.int p6), .val x6, .val x7, .val x8, .val x9, .val (.ref b73), .val x66, .val x85, .val x105, .val (.ref (own_st p6 wOPEN wCLOSED wCANCELLED)), .val x15, .val x16, .val x17, .val x18, .val (.ref b216), .val x182, .val x202, .val x223, .val (.ref (own_st ((p6.toUInt32 >>> ((8 : Int32) &&& 31).toUInt32).toInt32) wOPEN wCLOSED wCANCELLED)), .val (.ref b287), .val (.ref b313), .val (.ref b351), .val (own_given x17 x8), .val (own_given x182 x66), .val (own_given x202 x85)] [(.int (1 : Int32))])) _
    refine XS.ifNo X461.here hx rfl (hb hby at_435) rfl ((if0 _ _).trans (feq (by decide : ¬ ((1 : Int32) = (0 : Int32)))).1) ?_
    show Steps p.tables e below (T461.setTop (mkF m 438 #[.val (.int p1), .val (.int p2), .val (.int p3), .val (.int p4), .val (.int p5), .val (.int p6), .val x6, .val x7, .val x8, .val x9, .val (.ref b73), .val x66, .val x85, .val x105, .val (.ref (own_st p6 wOPEN wCLOSED wCANCELLED)), .val x15, .val x16, .val x17, .val x18, .val (.ref b216), .val x182, .val x202, .val x223, .val (.ref (own_st ((p6.toUInt32 >>> ((8 : Int32) &&& 31).toUInt32).toInt32) wOPEN wCLOSED wCANCELLED)), .val (.ref b287), .val (.ref b313), .val (.ref b351), .val (own_given x17 x8), .val (own_given x182 x66), .val (own_given x202 x85)] [])) _
    refine XS.aload X461.here hx rfl (hb hby at_438) rfl rfl ?_
    show Steps p.tables e below (T461.setTop (mkF m 440 #[.val (.int p1), .val (.int p2), .val (.int p3), .val (.int p4), .val (.int p5), .val (.int p6), .val x6, .val x7, .val x8, .val x9, .val (.ref b73), .val x66, .val x85, .val x105, .val (.ref (own_st p6 wOPEN wCLOSED wCANCELLED)), .val x15, .val x16, .val x17, .val x18, .val (.ref b216), .val x182, .val x202, .val x223, .val (.ref (own_st ((p6.toUInt32 >>> ((8 : Int32) &&& 31).toUInt32).toInt32) wOPEN wCLOSED wCANCELLED)), .val (.ref b287), .val (.ref b313), .val (.ref b351), .val (own_given x17 x8), .val (own_given x182 x66), .val (own_given x202 x85)] [(.ref b351)])) _
    exact kt
  obtain ⟨cq463, kq463, qa463, qb463, qc463⟩ := isOf hZ eq461 g353
  obtain ⟨_, _, ⟨T463, L463, k463, n463⟩, -, X463, ⟨Lc463, hQ463, l463, y463, z463⟩, st463⟩ := X461.virtualBack hx (y := (⟨"com/example/refertario/refertario/store/Episode", "discharged", "()Ljava/lang/String;"⟩ : MethodName)) (z := (⟨"com/example/refertario/refertario/store/Episode", "discharged", "()Ljava/lang/String;"⟩ : MethodName)) hown (mvT hZ (hw _ (own_w 123 rfl))) (mvT hZ (hw _ (own_w 124 rfl))) (notFace_of_selects (args := #[]) (mvT hZ (hw _ (own_w 126 rfl)))) (mvT hZ (hw _ (own_w 126 rfl))) (mvT hZ (hw _ (own_w 125 rfl))) (by decide) (backOf (W := 0) (rm22 l Z a0 hw [] b351 x105 T350.heap n0 zs366 g361 pj136) hZ (hw _ (own_w 127 rfl)) (hw _ (own_w 38 rfl)) (by decide) (by decide)) qa463 qc463 (g := (mkF m 440 #[.val (.int p1), .val (.int p2), .val (.int p3), .val (.int p4), .val (.int p5), .val (.int p6), .val x6, .val x7, .val x8, .val x9, .val (.ref b73), .val x66, .val x85, .val x105, .val (.ref (own_st p6 wOPEN wCLOSED wCANCELLED)), .val x15, .val x16, .val x17, .val x18, .val (.ref b216), .val x182, .val x202, .val x223, .val (.ref (own_st ((p6.toUInt32 >>> ((8 : Int32) &&& 31).toUInt32).toInt32) wOPEN wCLOSED wCANCELLED)), .val (.ref b287), .val (.ref b313), .val (.ref b351), .val (own_given x17 x8), .val (own_given x182 x66), .val (own_given x202 x85)] [(.ref b351)])) rfl (by rw [hml]; rfl) (Steps.refl _) (argsL := []) (rest := []) (lenOf pd_12 rfl) rfl (by show 2 * 0 + _ ≤ _; exact Nat.le_of_eq rfl) (hb hby at_440) (fun _ _ => ⟨rfl, eq461, (by decide : 35 + 0 ≤ _), (by decide : 107 + 0 ≤ _)⟩)
  dsimp only [Pt.U, Pt.locs, Pt.cells, Pt.slots] at X463 l463 y463 z463 st463 hQ463
  subst l463 y463 z463
  obtain ⟨rfl, Nq463, eq463⟩ := hQ463
  have N463 := Fr.app N461 Nq463
  have pre464 : own_Go p e below S0 (T463.setTop (mkF m 445 #[.val (.int p1), .val (.int p2), .val (.int p3), .val (.int p4), .val (.int p5), .val (.int p6), .val x6, .val x7, .val x8, .val x9, .val (.ref b73), .val x66, .val x85, .val x105, .val (.ref (own_st p6 wOPEN wCLOSED wCANCELLED)), .val x15, .val x16, .val x17, .val x18, .val (.ref b216), .val x182, .val x202, .val x223, .val (.ref (own_st ((p6.toUInt32 >>> ((8 : Int32) &&& 31).toUInt32).toInt32) wOPEN wCLOSED wCANCELLED)), .val (.ref b287), .val (.ref b313), .val (.ref b351), .val (own_given x17 x8), .val (own_given x182 x66), .val (own_given x202 x85)] [x105, x105])) := by
    intro t kt
    refine pre462 t ?_
    refine st463.trans ?_
    show Steps p.tables e below (T463.setTop (mkF m 443 #[.val (.int p1), .val (.int p2), .val (.int p3), .val (.int p4), .val (.int p5), .val (.int p6), .val x6, .val x7, .val x8, .val x9, .val (.ref b73), .val x66, .val x85, .val x105, .val (.ref (own_st p6 wOPEN wCLOSED wCANCELLED)), .val x15, .val x16, .val x17, .val x18, .val (.ref b216), .val x182, .val x202, .val x223, .val (.ref (own_st ((p6.toUInt32 >>> ((8 : Int32) &&& 31).toUInt32).toInt32) wOPEN wCLOSED wCANCELLED)), .val (.ref b287), .val (.ref b313), .val (.ref b351), .val (own_given x17 x8), .val (own_given x182 x66), .val (own_given x202 x85)] [x105])) _
    refine XS.aload X463.here hx rfl (hb hby at_443) rfl pj136 ?_
    show Steps p.tables e below (T463.setTop (mkF m 445 #[.val (.int p1), .val (.int p2), .val (.int p3), .val (.int p4), .val (.int p5), .val (.int p6), .val x6, .val x7, .val x8, .val x9, .val (.ref b73), .val x66, .val x85, .val x105, .val (.ref (own_st p6 wOPEN wCLOSED wCANCELLED)), .val x15, .val x16, .val x17, .val x18, .val (.ref b216), .val x182, .val x202, .val x223, .val (.ref (own_st ((p6.toUInt32 >>> ((8 : Int32) &&& 31).toUInt32).toInt32) wOPEN wCLOSED wCANCELLED)), .val (.ref b287), .val (.ref b313), .val (.ref b351), .val (own_given x17 x8), .val (own_given x182 x66), .val (own_given x202 x85)] [x105, x105])) _
    exact kt
  have f465 := (own_OR.keep (own_OR.keep (own_OR.keep qj137 Kj144 ) K215 ) Kj223 )
  have f466 := (own_OR.keep (own_OR.ext (own_OR.keep (own_OR.keep f465 Kj243 ) Kj263 ) E287) K300 )
  have f467 : own_OR Z T350.heap x105  := (own_OR.keep (own_OR.keep (own_OR.ext f466 E313) K327 ) K350 )
  obtain ⟨_, _, ⟨T468, L468, k468, n468⟩, -, X468, ⟨Lc468, hQ468, l468, y468, z468⟩, st468⟩ := Jvm.LawKit.callS X463 hx (y := (⟨"com/example/refertario/refertario/store/EpisodeAdmittedAsPinLaw", "eq", "(Ljava/lang/String;Ljava/lang/String;)Z"⟩ : MethodName)) hown (mvT hZ (hw _ (own_w 85 rfl))) (mvT hZ (hw _ (own_w 86 rfl))) (mvT hZ (hw _ (own_w 2 rfl))) (mvT hZ (hw _ (own_w 87 rfl))) (by decide) (backOf (W := 0) (rm14 l Z a0 hw [] x105 T350.heap n0 zs366 pj136 f467) hZ (hw _ (own_w 87 rfl)) (hw _ (own_w 2 rfl)) (by decide) (by decide)) (g := (mkF m 445 #[.val (.int p1), .val (.int p2), .val (.int p3), .val (.int p4), .val (.int p5), .val (.int p6), .val x6, .val x7, .val x8, .val x9, .val (.ref b73), .val x66, .val x85, .val x105, .val (.ref (own_st p6 wOPEN wCLOSED wCANCELLED)), .val x15, .val x16, .val x17, .val x18, .val (.ref b216), .val x182, .val x202, .val x223, .val (.ref (own_st ((p6.toUInt32 >>> ((8 : Int32) &&& 31).toUInt32).toInt32) wOPEN wCLOSED wCANCELLED)), .val (.ref b287), .val (.ref b313), .val (.ref b351), .val (own_given x17 x8), .val (own_given x182 x66), .val (own_given x202 x85)] [x105, x105])) rfl (by rw [hml]; rfl) (argsL := [x105, x105]) (rest := []) (lenOf pd_13 rfl) rfl (by show 2 * 0 + _ ≤ _; exact Nat.le_of_eq rfl) (hb hby at_445) (fun _ _ => ⟨rfl, eq463, (by decide : 35 + 0 ≤ _), (by decide : 107 + 0 ≤ _)⟩)
  dsimp only [Pt.U, Pt.locs, Pt.cells, Pt.slots] at X468 l468 y468 z468 st468 hQ468
  subst l468 y468 z468
  obtain ⟨rfl, Nq468, eq468⟩ := hQ468
  have N468 := Fr.app N463 Nq468
  have pre469 : own_Go p e below S0 (T468.setTop (mkF m 453 #[.val (.int p1), .val (.int p2), .val (.int p3), .val (.int p4), .val (.int p5), .val (.int p6), .val x6, .val x7, .val x8, .val x9, .val (.ref b73), .val x66, .val x85, .val x105, .val (.ref (own_st p6 wOPEN wCLOSED wCANCELLED)), .val x15, .val x16, .val x17, .val x18, .val (.ref b216), .val x182, .val x202, .val x223, .val (.ref (own_st ((p6.toUInt32 >>> ((8 : Int32) &&& 31).toUInt32).toInt32) wOPEN wCLOSED wCANCELLED)), .val (.ref b287), .val (.ref b313), .val (.ref b351), .val (own_given x17 x8), .val (own_given x182 x66), .val (own_given x202 x85)] [(.ref b351)])) := by
    intro t kt
    refine pre464 t ?_
    refine st468 _ ?_
    show Steps p.tables e below (T468.setTop (mkF m 448 #[.val (.int p1), .val (.int p2), .val (.int p3), .val (.int p4), .val (.int p5), .val (.int p6), .val x6, .val x7, .val x8, .val x9, .val (.ref b73), .val x66, .val x85, .val x105, .val (.ref (own_st p6 wOPEN wCLOSED wCANCELLED)), .val x15, .val x16, .val x17, .val x18, .val (.ref b216), .val x182, .val x202, .val x223, .val (.ref (own_st ((p6.toUInt32 >>> ((8 : Int32) &&& 31).toUInt32).toInt32) wOPEN wCLOSED wCANCELLED)), .val (.ref b287), .val (.ref b313), .val (.ref b351), .val (own_given x17 x8), .val (own_given x182 x66), .val (own_given x202 x85)] [(.int (1 : Int32))])) _
    refine XS.ifNo X468.here hx rfl (hb hby at_448) rfl ((if0 _ _).trans (feq (by decide : ¬ ((1 : Int32) = (0 : Int32)))).1) ?_
    show Steps p.tables e below (T468.setTop (mkF m 451 #[.val (.int p1), .val (.int p2), .val (.int p3), .val (.int p4), .val (.int p5), .val (.int p6), .val x6, .val x7, .val x8, .val x9, .val (.ref b73), .val x66, .val x85, .val x105, .val (.ref (own_st p6 wOPEN wCLOSED wCANCELLED)), .val x15, .val x16, .val x17, .val x18, .val (.ref b216), .val x182, .val x202, .val x223, .val (.ref (own_st ((p6.toUInt32 >>> ((8 : Int32) &&& 31).toUInt32).toInt32) wOPEN wCLOSED wCANCELLED)), .val (.ref b287), .val (.ref b313), .val (.ref b351), .val (own_given x17 x8), .val (own_given x182 x66), .val (own_given x202 x85)] [])) _
    refine XS.aload X468.here hx rfl (hb hby at_451) rfl rfl ?_
    show Steps p.tables e below (T468.setTop (mkF m 453 #[.val (.int p1), .val (.int p2), .val (.int p3), .val (.int p4), .val (.int p5), .val (.int p6), .val x6, .val x7, .val x8, .val x9, .val (.ref b73), .val x66, .val x85, .val x105, .val (.ref (own_st p6 wOPEN wCLOSED wCANCELLED)), .val x15, .val x16, .val x17, .val x18, .val (.ref b216), .val x182, .val x202, .val x223, .val (.ref (own_st ((p6.toUInt32 >>> ((8 : Int32) &&& 31).toUInt32).toInt32) wOPEN wCLOSED wCANCELLED)), .val (.ref b287), .val (.ref b313), .val (.ref b351), .val (own_given x17 x8), .val (own_given x182 x66), .val (own_given x202 x85)] [(.ref b351)])) _
    exact kt
  obtain ⟨cq470, kq470, qa470, qb470, qc470⟩ := isOf hZ eq468 g353
  obtain ⟨_, _, ⟨T470, L470, k470, n470⟩, -, X470, ⟨Lc470, hQ470, l470, y470, z470⟩, st470⟩ := X468.virtualBack hx (y := (⟨"com/example/refertario/refertario/store/Episode", "status", "()Lcom/example/refertario/refertario/store/Episode$Status;"⟩ : MethodName)) (z := (⟨"com/example/refertario/refertario/store/Episode", "status", "()Lcom/example/refertario/refertario/store/Episode$Status;"⟩ : MethodName)) hown (mvT hZ (hw _ (own_w 128 rfl))) (mvT hZ (hw _ (own_w 129 rfl))) (notFace_of_selects (args := #[]) (mvT hZ (hw _ (own_w 131 rfl)))) (mvT hZ (hw _ (own_w 131 rfl))) (mvT hZ (hw _ (own_w 130 rfl))) (by decide) (backOf (W := 0) (rm23 l Z a0 hw [] b351 (.ref (own_st p6 wOPEN wCLOSED wCANCELLED)) T350.heap n0 zs366 g362 rfl) hZ (hw _ (own_w 132 rfl)) (hw _ (own_w 38 rfl)) (by decide) (by decide)) qa470 qc470 (g := (mkF m 453 #[.val (.int p1), .val (.int p2), .val (.int p3), .val (.int p4), .val (.int p5), .val (.int p6), .val x6, .val x7, .val x8, .val x9, .val (.ref b73), .val x66, .val x85, .val x105, .val (.ref (own_st p6 wOPEN wCLOSED wCANCELLED)), .val x15, .val x16, .val x17, .val x18, .val (.ref b216), .val x182, .val x202, .val x223, .val (.ref (own_st ((p6.toUInt32 >>> ((8 : Int32) &&& 31).toUInt32).toInt32) wOPEN wCLOSED wCANCELLED)), .val (.ref b287), .val (.ref b313), .val (.ref b351), .val (own_given x17 x8), .val (own_given x182 x66), .val (own_given x202 x85)] [(.ref b351)])) rfl (by rw [hml]; rfl) (Steps.refl _) (argsL := []) (rest := []) (lenOf pd_14 rfl) rfl (by show 2 * 0 + _ ≤ _; exact Nat.le_of_eq rfl) (hb hby at_453) (fun _ _ => ⟨rfl, eq468, (by decide : 35 + 0 ≤ _), (by decide : 107 + 0 ≤ _)⟩)
  dsimp only [Pt.U, Pt.locs, Pt.cells, Pt.slots] at X470 l470 y470 z470 st470 hQ470
  subst l470 y470 z470
  obtain ⟨rfl, Nq470, eq470⟩ := hQ470
  have N470 := Fr.app N468 Nq470
  have pre471 : own_Go p e below S0 (T470.setTop (mkF m 466 #[.val (.int p1), .val (.int p2), .val (.int p3), .val (.int p4), .val (.int p5), .val (.int p6), .val x6, .val x7, .val x8, .val x9, .val (.ref b73), .val x66, .val x85, .val x105, .val (.ref (own_st p6 wOPEN wCLOSED wCANCELLED)), .val x15, .val x16, .val x17, .val x18, .val (.ref b216), .val x182, .val x202, .val x223, .val (.ref (own_st ((p6.toUInt32 >>> ((8 : Int32) &&& 31).toUInt32).toInt32) wOPEN wCLOSED wCANCELLED)), .val (.ref b287), .val (.ref b313), .val (.ref b351), .val (own_given x17 x8), .val (own_given x182 x66), .val (own_given x202 x85)] [(.int (1 : Int32))])) := by
    intro t kt
    refine pre469 t ?_
    refine st470.trans ?_
    show Steps p.tables e below (T470.setTop (mkF m 456 #[.val (.int p1), .val (.int p2), .val (.int p3), .val (.int p4), .val (.int p5), .val (.int p6), .val x6, .val x7, .val x8, .val x9, .val (.ref b73), .val x66, .val x85, .val x105, .val (.ref (own_st p6 wOPEN wCLOSED wCANCELLED)), .val x15, .val x16, .val x17, .val x18, .val (.ref b216), .val x182, .val x202, .val x223, .val (.ref (own_st ((p6.toUInt32 >>> ((8 : Int32) &&& 31).toUInt32).toInt32) wOPEN wCLOSED wCANCELLED)), .val (.ref b287), .val (.ref b313), .val (.ref b351), .val (own_given x17 x8), .val (own_given x182 x66), .val (own_given x202 x85)] [(.ref (own_st p6 wOPEN wCLOSED wCANCELLED))])) _
    refine XS.aload X470.here hx rfl (hb hby at_456) rfl rfl ?_
    show Steps p.tables e below (T470.setTop (mkF m 458 #[.val (.int p1), .val (.int p2), .val (.int p3), .val (.int p4), .val (.int p5), .val (.int p6), .val x6, .val x7, .val x8, .val x9, .val (.ref b73), .val x66, .val x85, .val x105, .val (.ref (own_st p6 wOPEN wCLOSED wCANCELLED)), .val x15, .val x16, .val x17, .val x18, .val (.ref b216), .val x182, .val x202, .val x223, .val (.ref (own_st ((p6.toUInt32 >>> ((8 : Int32) &&& 31).toUInt32).toInt32) wOPEN wCLOSED wCANCELLED)), .val (.ref b287), .val (.ref b313), .val (.ref b351), .val (own_given x17 x8), .val (own_given x182 x66), .val (own_given x202 x85)] [(.ref (own_st p6 wOPEN wCLOSED wCANCELLED)), (.ref (own_st p6 wOPEN wCLOSED wCANCELLED))])) _
    refine Jvm.RoadKit.acmp (g := (mkF m 458 #[.val (.int p1), .val (.int p2), .val (.int p3), .val (.int p4), .val (.int p5), .val (.int p6), .val x6, .val x7, .val x8, .val x9, .val (.ref b73), .val x66, .val x85, .val x105, .val (.ref (own_st p6 wOPEN wCLOSED wCANCELLED)), .val x15, .val x16, .val x17, .val x18, .val (.ref b216), .val x182, .val x202, .val x223, .val (.ref (own_st ((p6.toUInt32 >>> ((8 : Int32) &&& 31).toUInt32).toInt32) wOPEN wCLOSED wCANCELLED)), .val (.ref b287), .val (.ref b313), .val (.ref b351), .val (own_given x17 x8), .val (own_given x182 x66), .val (own_given x202 x85)] [(.ref (own_st p6 wOPEN wCLOSED wCANCELLED)), (.ref (own_st p6 wOPEN wCLOSED wCANCELLED))])) X470 hx rfl rfl rfl (pc0 := 458) (pc' := 461) (same := true) rfl (hb hby at_458) rfl (decide_eq_true rfl) (by decide) (by decide) ?_
    show Steps p.tables e below (T470.setTop (mkF m 461 #[.val (.int p1), .val (.int p2), .val (.int p3), .val (.int p4), .val (.int p5), .val (.int p6), .val x6, .val x7, .val x8, .val x9, .val (.ref b73), .val x66, .val x85, .val x105, .val (.ref (own_st p6 wOPEN wCLOSED wCANCELLED)), .val x15, .val x16, .val x17, .val x18, .val (.ref b216), .val x182, .val x202, .val x223, .val (.ref (own_st ((p6.toUInt32 >>> ((8 : Int32) &&& 31).toUInt32).toInt32) wOPEN wCLOSED wCANCELLED)), .val (.ref b287), .val (.ref b313), .val (.ref b351), .val (own_given x17 x8), .val (own_given x182 x66), .val (own_given x202 x85)] [])) _
    refine XS.iconst X470.here hx rfl (hb hby at_461) ?_
    show Steps p.tables e below (T470.setTop (mkF m 462 #[.val (.int p1), .val (.int p2), .val (.int p3), .val (.int p4), .val (.int p5), .val (.int p6), .val x6, .val x7, .val x8, .val x9, .val (.ref b73), .val x66, .val x85, .val x105, .val (.ref (own_st p6 wOPEN wCLOSED wCANCELLED)), .val x15, .val x16, .val x17, .val x18, .val (.ref b216), .val x182, .val x202, .val x223, .val (.ref (own_st ((p6.toUInt32 >>> ((8 : Int32) &&& 31).toUInt32).toInt32) wOPEN wCLOSED wCANCELLED)), .val (.ref b287), .val (.ref b313), .val (.ref b351), .val (own_given x17 x8), .val (own_given x182 x66), .val (own_given x202 x85)] [(.int (1 : Int32))])) _
    refine XS.goto X470.here hx rfl (pc0 := 462) (pc' := 466) rfl (hb hby at_462) (by decide) (by decide) ?_
    show Steps p.tables e below (T470.setTop (mkF m 466 #[.val (.int p1), .val (.int p2), .val (.int p3), .val (.int p4), .val (.int p5), .val (.int p6), .val x6, .val x7, .val x8, .val x9, .val (.ref b73), .val x66, .val x85, .val x105, .val (.ref (own_st p6 wOPEN wCLOSED wCANCELLED)), .val x15, .val x16, .val x17, .val x18, .val (.ref b216), .val x182, .val x202, .val x223, .val (.ref (own_st ((p6.toUInt32 >>> ((8 : Int32) &&& 31).toUInt32).toInt32) wOPEN wCLOSED wCANCELLED)), .val (.ref b287), .val (.ref b313), .val (.ref b351), .val (own_given x17 x8), .val (own_given x182 x66), .val (own_given x202 x85)] [(.int (1 : Int32))])) _
    exact kt
  obtain ⟨fs, hr, hrun, hended, hW, hsame⟩ := X470.leave (v := some (.int (1 : Int32))) (fun h => by rw [Bd.returns] at h; cases h)
  refine ⟨_, _, fin _ (pre471 _ ?_), hrun, hended, _, _, rfl, ?_, ⟨_, rfl⟩, hW, hsame.mono (by decide) (by decide)⟩
  · exact retN X470 hx (t := .boolean) Bd.returns (by simp) (hb hby at_466) hr
  · show Q0 Z p1 p2 p3 p4 p5 p6 wC wOPEN wCLOSED wCANCELLED h0 n0 _ T470.heap _
    rw [eq470]
    exact ⟨rfl, N470⟩

set_option maxRecDepth 65536 in
set_option maxHeartbeats 40000000 in
theorem comes_1 {Post : Tables → Env → Array Value → State → Outcome → State → Prop} (hpost : ∀ tb e args s v u, (limb_1_1.after args s (.returned v) u = true ∧ limb_1_2.after args s (.returned v) u = true ∧ True) → FrameEnd s (.returned v) u (Jvm.fieldLocs frame_1_writes args s ++ Jvm.arrayLocs frame_1_arrays args s ++ Jvm.staticLocs frame_1_statics s) 80 320 → Post tb e args s (.returned v) u) :
    ArmFor flags0 classFile x code maxLocals ret World_1 tables_1 room_1 Calls_1 rest_1 Pre_1 Post := by
  intro l hfl _ _ p e ha hc hk s m args below hf hA hF happ hP
  obtain ⟨hcalls, hrest, hpre⟩ := hP
  obtain ⟨-, -, -, hnamed, -, -, -, hat⟩ := (Spec.applies_iff hf).mp happ
  obtain ⟨hg, hn⟩ := and_e (Cond.before_iff.mp (show (Jvm.Cond.and given_1 narrow_1).before args s = true from hpre))
  obtain ⟨hcount, hg0⟩ := and_e hg
  obtain ⟨ga0, hg1⟩ := and_e hg0
  obtain ⟨ga1, hg2⟩ := and_e hg1
  obtain ⟨ga2, hg3⟩ := and_e hg2
  obtain ⟨ga3, hg4⟩ := and_e hg3
  obtain ⟨ga4, hg5⟩ := and_e hg4
  have ga5 := hg5
  obtain ⟨w0, w1, w2, w3, w4, w5, rfl⟩ : ∃ w0 w1 w2 w3 w4 w5 : Value, args = #[w0, w1, w2, w3, w4, w5] := by
    have hs : args.size = 6 := by simpa [Cond.value, given_1] using hcount
    obtain ⟨L⟩ := args
    match L, hs with
    | [w0, w1, w2, w3, w4, w5], _ => exact ⟨w0, w1, w2, w3, w4, w5, rfl⟩
  have hw := fun d (hd : d ∈ tables_1) => atoms_spec (ws := Jvm.Cond.code x code maxLocals ret :: tables_1) hat d (List.mem_cons_of_mem _ hd)
  have hfit : Fit s := fun {y c} hc i hi => by
    obtain ⟨ha, rfl⟩ := Array.getElem?_eq_some_iff.mp hc
    have q := List.all_eq_true.mp ((Array.all_eq_true_iff_forall_mem.mp hF) _ (Array.getElem_mem ha)) i (List.mem_range.mpr hi)
    simpa [Array.getElem?_eq_getElem hi] using q
  obtain ⟨hsets, hown0⟩ := atoms_of _ (rest_1_c_eq ▸ (show rest_1_c.before _ s = true from hrest))
  obtain ⟨i0, ei0⟩ := is_v ga0
  obtain rfl : w0 = (.int i0) := Option.some.inj ei0
  obtain ⟨i1, ei1⟩ := is_v ga1
  obtain rfl : w1 = (.int i1) := Option.some.inj ei1
  obtain ⟨i2, ei2⟩ := is_v ga2
  obtain rfl : w2 = (.int i2) := Option.some.inj ei2
  obtain ⟨i3, ei3⟩ := is_v ga3
  obtain rfl : w3 = (.int i3) := Option.some.inj ei3
  obtain ⟨i4, ei4⟩ := is_v ga4
  obtain rfl : w4 = (.int i4) := Option.some.inj ei4
  obtain ⟨i5, ei5⟩ := is_v ga5
  obtain rfl : w5 = (.int i5) := Option.some.inj ei5
  obtain ⟨nr1, nr2⟩ := and_e hn
  obtain ⟨nr3, nr4⟩ := and_e nr2
  obtain ⟨w5, ev6⟩ := exa_v nr1
  have S_OPEN := Sta.start ev6 (Or.inr ⟨(hw _ (own_w 34 rfl)), (hw _ (own_w 35 rfl))⟩)
  have E_7 := Exa.start ev6 nr1
  obtain ⟨w8, ev9⟩ := exa_v nr3
  have S_CANCELLED := Sta.start ev9 (Or.inr ⟨(hw _ (own_w 34 rfl)), (hw _ (own_w 134 rfl))⟩)
  have E_10 := Exa.start ev9 nr3
  obtain ⟨w11, ev12⟩ := exa_v nr4
  have S_CLOSED := Sta.start ev12 (Or.inr ⟨(hw _ (own_w 34 rfl)), (hw _ (own_w 136 rfl))⟩)
  have E_13 := Exa.start ev12 nr4
  obtain ⟨wC, evC⟩ := is_v (Cond.before_iff.mp (hsets _ (List.mem_of_getElem? (i := 1) rfl)))
  have SC := Sta.start evC (Or.inl (hsets _ (List.mem_of_getElem? (i := 0) rfl)))
  have hC : ¬ wC = (0 : Int32) := fun q => by
    have z := not_v (Cond.before_iff.mp (hsets _ (List.mem_of_getElem? (i := 2) rfl)))
    exact absurd ((eq_i evC (Term.int_eval 0) (by rw [q])).symm.trans z) (by decide)
  obtain ⟨n, o, h1, h2, h3, _, L, rfl, ⟨rfl, N⟩, hq⟩ := rm0 l s _ hw tables_1 i0 i1 i2 i3 i4 i5 wC w5 w11 w8 s.heap s.heap.size (Nat.le_refl _) (Old.start s) ⟨SC, hC⟩ S_OPEN S_CLOSED S_CANCELLED p e ha hc hk s m _ below hf ((Spec.applies_iff_loose hf).mp happ).1 ⟨rfl, State.Warmed39.refl s, rfl⟩ trivial
  refine ⟨n, _, h1, h2, h3, hpost _ _ _ _ _ _ ⟨Cond.after_iff.mpr rfl, Cond.after_iff.mpr (eq_i res_at (Term.int_eval (1)) rfl), trivial⟩ ⟨hq.1, hq.2.1, (hq.2.2.sift fun y hy => Or.inr (N y hy)).mono (by decide) (by decide)⟩⟩
theorem main_1_1 : Claimed_1_1 := comes_1 fun _ _ _ _ _ _ h hF => ⟨h.1, hF⟩
theorem main_1_2 : Claimed_1_2 := comes_1 fun _ _ _ _ _ _ h hF => ⟨h.2.1, hF⟩

end Jvm.Pilot.@@N@@
namespace Jvm.Pilot.@@N@@
open Jvm Jvm.ClassFile Sem Op Lib Jvm.Free Jvm.Stand Jvm.Pilot.@@N@@.Jvm.D
/-! MADE BY PROGRAM (witnessworld.py) out of the Statement's table words and the real class files: 18 classes; the members and pool entries that the words name. The judged class is class 1, her method 1. -/
namespace start1
open Jvm.ClassFile
def u (s : String) : CpInfo := .utf8 (stringToUtf16 s)
/-- a pool by its gaps: so many unusable entries, then the entry; so many at the end -/
def gap : Nat → List CpInfo → List CpInfo
  | 0, r => r
  | n + 1, r => .unusable :: gap n r
def poolList (es : List (Nat × CpInfo)) (last : Nat) : List CpInfo := es.foldr (fun e r => gap e.1 (e.2 :: r)) (gap last [])
def pool (es : List (Nat × CpInfo)) (last : Nat) : Array CpInfo := ⟨poolList es last⟩
def fileOf (pool : Array CpInfo) (this : Nat) (attrs : Array Attribute := #[]) (ms : Array MethodInfo := #[]) (fl : Nat := 33) (sup : Nat := 0) (ifs : Array Nat := #[]) (fds : Array FieldInfo := #[]) : ClassFile where
  minorVersion := 0
  majorVersion := 65
  constantPool := pool
  accessFlags := fl
  thisClass := this
  superClass := sup
  interfaces := ifs
  fields := fds
  methods := ms
  attributes := attrs
def plain (name : String) (sup : Option ClassId) : Class where
  name := name
  kind := .ordinary
  loader := none
  accessFlags := 33
  super := sup
  interfaces := #[]
  cf := none
  fields := #[]
  methods := #[]
  instanceTypes := #[]
  staticTypes := #[]
  resolved := #[]
  callSites := []
  init := .initialized
  statics := none
  mirror := none

def pool0 : Array CpInfo := pool [(5, u "<init>"), (0, u "()V"), (1, .class_ 10), (1, u "java/lang/Object")] 113

def k0c0 : Code := { maxStack := 0, maxLocals := 1, code := object_method_1_code, exceptionTable := #[], attributes := #[] }
def k0m0 : Method := { name := "<init>", desc := "()V", sig := { parameters := [], returnType := none }, accessFlags := 1, code := some k0c0 }
/-- java/lang/Object -/
def k0 : Class := { plain "java/lang/Object" none with
  accessFlags := 33
  interfaces := #[]
  cf := some (fileOf pool0 8 #[] #[{ accessFlags := 1, nameIndex := 5, descriptorIndex := 6, attributes := #[] }] 33 0 #[] #[])
  fields := #[]
  methods := #[k0m0]
  instanceTypes := #[]
  staticTypes := #[]
  resolved := Array.replicate 124 none
  statics := none }

def pool1 : Array CpInfo := pool [(2, .class_ 4), (1, u "java/lang/Object"), (0, u "<init>"), (0, u "()V"), (0, .methodref 8 9), (0, .class_ 10), (0, .nameAndType 11 12), (0, u "com/example/refertario/refertario/store/EpisodeAdmittedAsPinLaw"), (0, u "ch"), (0, u "(II)Ljava/lang/String;"), (0, .methodref 8 14), (0, .nameAndType 15 16), (0, u "status"), (0, u "(I)Lcom/example/refertario/refertario/store/Episode$Status;"), (0, .class_ 18), (0, u "com/example/refertario/refertario/store/Episode"), (0, .methodref 17 20), (0, .nameAndType 5 21), (0, u "(Ljava/lang/String;Ljava/lang/String;Ljava/lang/String;Ljava/lang/String;Ljava/lang/String;Ljava/lang/String;Ljava/lang/String;Ljava/lang/String;Lcom/example/refertario/refertario/store/Episode$Status;)V"), (0, .methodref 17 23), (0, .nameAndType 24 25), (0, u "admittedAs"), (0, u "(Lcom/example/refertario/refertario/store/Episode;)Lcom/example/refertario/refertario/store/Episode;"), (0, .methodref 17 27), (0, .nameAndType 28 29), (0, u "application"), (0, u "()Ljava/lang/String;"), (0, .methodref 8 31), (0, .nameAndType 32 33), (0, u "eq"), (0, u "(Ljava/lang/String;Ljava/lang/String;)Z"), (0, .methodref 17 35), (0, .nameAndType 36 29), (0, u "id"), (0, .methodref 17 38), (0, .nameAndType 39 29), (0, u "idType"), (0, .methodref 17 41), (0, .nameAndType 42 29), (0, u "patient"), (0, .methodref 17 44), (0, .nameAndType 45 29), (0, u "patientClass"), (0, .methodref 17 47), (0, .nameAndType 48 29), (0, u "pointOfCare"), (0, .methodref 17 50), (0, .nameAndType 51 29), (0, u "admitted"), (0, .methodref 17 53), (0, .nameAndType 54 29), (0, u "discharged"), (0, .methodref 17 56), (0, .nameAndType 15 57), (0, u "()Lcom/example/refertario/refertario/store/Episode$Status;"), (0, .methodref 59 60), (0, .class_ 61), (0, .nameAndType 62 63), (0, u "java/lang/String"), (0, u "valueOf"), (0, u "(C)Ljava/lang/String;"), (0, .fieldref 65 66), (0, .class_ 67), (0, .nameAndType 68 69), (0, u "com/example/refertario/refertario/store/Episode$Status"), (0, u "OPEN"), (0, u "Lcom/example/refertario/refertario/store/Episode$Status;"), (0, .fieldref 65 71), (0, .nameAndType 72 69), (0, u "CLOSED"), (0, .fieldref 65 74), (0, .nameAndType 75 69), (0, u "CANCELLED"), (0, .methodref 59 77), (0, .nameAndType 78 79), (0, u "equals"), (0, u "(Ljava/lang/Object;)Z"), (2, u "law"), (0, u "(IIIIII)Z")] 5

def k1m0 : Method := { name := "<init>", desc := "()V", sig := { parameters := [], returnType := none }, accessFlags := 1, code := none }
def k1c1 : Code := { maxStack := 11, maxLocals := 30, code := code, exceptionTable := #[], attributes := #[] }
def k1m1 : Method := { name := "law", desc := "(IIIIII)Z", sig := { parameters := [.int, .int, .int, .int, .int, .int], returnType := some .boolean }, accessFlags := 9, code := some k1c1 }
def k1c2 : Code := { maxStack := 2, maxLocals := 2, code := method_3_code, exceptionTable := #[], attributes := #[] }
def k1m2 : Method := { name := "ch", desc := "(II)Ljava/lang/String;", sig := { parameters := [.int, .int], returnType := some (.object "java/lang/String") }, accessFlags := 10, code := some k1c2 }
def k1c3 : Code := { maxStack := 2, maxLocals := 2, code := method_4_code, exceptionTable := #[], attributes := #[] }
def k1m3 : Method := { name := "status", desc := "(I)Lcom/example/refertario/refertario/store/Episode$Status;", sig := { parameters := [.int], returnType := some (.object "com/example/refertario/refertario/store/Episode$Status") }, accessFlags := 10, code := some k1c3 }
def k1c4 : Code := { maxStack := 2, maxLocals := 2, code := method_5_code, exceptionTable := #[], attributes := #[] }
def k1m4 : Method := { name := "eq", desc := "(Ljava/lang/String;Ljava/lang/String;)Z", sig := { parameters := [(.object "java/lang/String"), (.object "java/lang/String")], returnType := some .boolean }, accessFlags := 10, code := some k1c4 }
/-- com/example/refertario/refertario/store/EpisodeAdmittedAsPinLaw -/
def k1 : Class := { plain "com/example/refertario/refertario/store/EpisodeAdmittedAsPinLaw" (some 0) with
  accessFlags := 49
  interfaces := #[]
  cf := some (fileOf pool1 8 #[] #[{ accessFlags := 1, nameIndex := 5, descriptorIndex := 6, attributes := #[] }, { accessFlags := 9, nameIndex := 82, descriptorIndex := 83, attributes := #[] }, { accessFlags := 10, nameIndex := 11, descriptorIndex := 12, attributes := #[] }, { accessFlags := 10, nameIndex := 15, descriptorIndex := 16, attributes := #[] }, { accessFlags := 10, nameIndex := 32, descriptorIndex := 33, attributes := #[] }] 49 2 #[] #[])
  fields := #[]
  methods := #[k1m0, k1m1, k1m2, k1m3, k1m4]
  instanceTypes := #[]
  staticTypes := #[]
  resolved := Array.replicate 89 none
  statics := none }

def pool2 : Array CpInfo := pool [(1, .class_ 2), (0, u "java/io/Serializable"), (0, .class_ 4), (0, u "java/lang/Object")] 2

/-- java/io/Serializable -/
def k2 : Class := { plain "java/io/Serializable" (some 0) with
  accessFlags := 1537
  interfaces := #[]
  cf := some (fileOf pool2 1 #[] #[] 1537 3 #[] #[])
  fields := #[]
  methods := #[]
  instanceTypes := #[]
  staticTypes := #[]
  resolved := Array.replicate 7 none
  statics := none }

def pool3 : Array CpInfo := pool [(1, .class_ 2), (0, u "java/lang/Comparable"), (0, .class_ 4), (0, u "java/lang/Object")] 7

/-- java/lang/Comparable -/
def k3 : Class := { plain "java/lang/Comparable" (some 0) with
  accessFlags := 1537
  interfaces := #[]
  cf := some (fileOf pool3 1 #[] #[] 1537 3 #[] #[])
  fields := #[]
  methods := #[]
  instanceTypes := #[]
  staticTypes := #[]
  resolved := Array.replicate 12 none
  statics := none }

def pool4 : Array CpInfo := pool [(2, .class_ 4), (1, u "java/lang/CharSequence"), (42, .class_ 48), (0, u "java/lang/CharSequence$1CodePointIterator"), (10, .class_ 60), (0, u "java/lang/CharSequence$1CharIterator"), (5, .class_ 67), (0, u "java/lang/Object")] 63

/-- java/lang/CharSequence -/
def k4 : Class := { plain "java/lang/CharSequence" (some 0) with
  accessFlags := 1537
  interfaces := #[]
  cf := some (fileOf pool4 2 #[.nestMembers #[47, 59]] #[] 1537 66 #[] #[])
  fields := #[]
  methods := #[]
  instanceTypes := #[]
  staticTypes := #[]
  resolved := Array.replicate 131 none
  statics := none }

def pool5 : Array CpInfo := pool [(1, .class_ 2), (0, u "java/lang/constant/Constable"), (0, .class_ 4), (0, u "java/lang/Object")] 6

/-- java/lang/constant/Constable -/
def k5 : Class := { plain "java/lang/constant/Constable" (some 0) with
  accessFlags := 1537
  interfaces := #[]
  cf := some (fileOf pool5 1 #[] #[] 1537 3 #[] #[])
  fields := #[]
  methods := #[]
  instanceTypes := #[]
  staticTypes := #[]
  resolved := Array.replicate 11 none
  statics := none }

def pool6 : Array CpInfo := pool [(1, .class_ 2), (0, u "java/lang/constant/ConstantDesc"), (0, .class_ 4), (0, u "java/lang/Object")] 32

/-- java/lang/constant/ConstantDesc -/
def k6 : Class := { plain "java/lang/constant/ConstantDesc" (some 0) with
  accessFlags := 1537
  interfaces := #[]
  cf := some (fileOf pool6 1 #[] #[] 1537 3 #[] #[])
  fields := #[]
  methods := #[]
  instanceTypes := #[]
  staticTypes := #[]
  resolved := Array.replicate 37 none
  statics := none }

def pool7 : Array CpInfo := pool [(1, .methodref 2 3), (0, .class_ 4), (0, .nameAndType 5 6), (0, u "java/lang/Object"), (0, u "<init>"), (0, u "()V"), (2, .fieldref 10 11), (0, .class_ 12), (0, .nameAndType 13 14), (0, u "java/lang/String"), (0, u "value"), (0, u "[B"), (0, .fieldref 10 16), (0, .nameAndType 17 18), (0, u "coder"), (0, u "B"), (2, u "hash"), (0, u "I"), (2, u "hashIsZero"), (0, u "Z"), (11, .fieldref 10 39), (0, .nameAndType 40 26), (0, u "COMPACT_STRINGS"), (12, u "toBytes"), (53, .class_ 109), (1, u "java/lang/StringLatin1"), (99, .methodref 10 210), (0, .nameAndType 5 211), (0, u "([BB)V"), (157, u "(C)Z"), (173, u "equals"), (29, u "(Ljava/lang/Object;)Z"), (1, .class_ 576), (0, u "java/lang/CharSequence"), (22, u "CASE_INSENSITIVE_ORDER"), (0, u "Ljava/util/Comparator;"), (181, u "valueOf"), (0, u "(C)Ljava/lang/String;"), (231, .methodref 107 1016), (0, .nameAndType 1017 369), (0, u "canEncode"), (0, .methodref 107 1019), (0, .nameAndType 53 1020), (0, u "(C)[B"), (80, u "serialPersistentFields"), (0, u "[Ljava/io/ObjectStreamField;"), (0, .class_ 1104), (0, u "java/lang/String$CaseInsensitiveComparator"), (1, .class_ 1107), (0, u "java/io/Serializable"), (0, .class_ 1109), (0, u "java/lang/Comparable"), (0, .class_ 1111), (0, u "java/lang/constant/Constable"), (0, .class_ 1113), (0, u "java/lang/constant/ConstantDesc"), (2, u "serialVersionUID"), (0, u "J"), (3, u "REPL"), (0, u "C"), (2, u "LATIN1"), (1, u "UTF16")] 323

def k7m0 : Method := { name := "<init>", desc := "()V", sig := { parameters := [], returnType := none }, accessFlags := 1, code := none }
def k7c1 : Code := { maxStack := 2, maxLocals := 3, code := jdk_42_method_66_code, exceptionTable := #[], attributes := #[] }
def k7m1 : Method := { name := "equals", desc := "(Ljava/lang/Object;)Z", sig := { parameters := [(.object "java/lang/Object")], returnType := some .boolean }, accessFlags := 1, code := some k7c1 }
def k7c2 : Code := { maxStack := 4, maxLocals := 1, code := jdk_42_method_139_code, exceptionTable := #[], attributes := #[] }
def k7m2 : Method := { name := "valueOf", desc := "(C)Ljava/lang/String;", sig := { parameters := [.char], returnType := some (.object "java/lang/String") }, accessFlags := 9, code := some k7c2 }
def k7c3 : Code := { maxStack := 2, maxLocals := 3, code := jdk_42_method_151_code, exceptionTable := #[], attributes := #[] }
def k7m3 : Method := { name := "<init>", desc := "([BB)V", sig := { parameters := [(.array .byte), .byte], returnType := none }, accessFlags := 0, code := some k7c3 }
/-- java/lang/String -/
def k7 : Class := { plain "java/lang/String" (some 0) with
  accessFlags := 49
  interfaces := #[2, 3, 4, 5, 6]
  cf := some (fileOf pool7 10 #[.nestMembers #[1103]] #[{ accessFlags := 1, nameIndex := 5, descriptorIndex := 6, attributes := #[] }, { accessFlags := 1, nameIndex := 543, descriptorIndex := 573, attributes := #[] }, { accessFlags := 9, nameIndex := 782, descriptorIndex := 783, attributes := #[] }, { accessFlags := 0, nameIndex := 5, descriptorIndex := 211, attributes := #[] }] 49 2 #[1106, 1108, 575, 1110, 1112] #[{ accessFlags := 18, nameIndex := 13, descriptorIndex := 14, attributes := #[] }, { accessFlags := 18, nameIndex := 17, descriptorIndex := 18, attributes := #[] }, { accessFlags := 2, nameIndex := 21, descriptorIndex := 22, attributes := #[] }, { accessFlags := 2, nameIndex := 25, descriptorIndex := 26, attributes := #[] }, { accessFlags := 26, nameIndex := 1116, descriptorIndex := 1117, attributes := #[] }, { accessFlags := 24, nameIndex := 40, descriptorIndex := 26, attributes := #[] }, { accessFlags := 26, nameIndex := 1101, descriptorIndex := 1102, attributes := #[] }, { accessFlags := 26, nameIndex := 1121, descriptorIndex := 1122, attributes := #[] }, { accessFlags := 25, nameIndex := 599, descriptorIndex := 600, attributes := #[] }, { accessFlags := 24, nameIndex := 1125, descriptorIndex := 18, attributes := #[] }, { accessFlags := 24, nameIndex := 1127, descriptorIndex := 18, attributes := #[] }])
  fields := #[{ name := "value", type := (.array .byte), accessFlags := 18, slot := 0, constantValue := 0 }, { name := "coder", type := .byte, accessFlags := 18, slot := 1, constantValue := 0 }, { name := "hash", type := .int, accessFlags := 2, slot := 2, constantValue := 0 }, { name := "hashIsZero", type := .boolean, accessFlags := 2, slot := 3, constantValue := 0 }, { name := "serialVersionUID", type := .long, accessFlags := 26, slot := 0, constantValue := 0 }, { name := "COMPACT_STRINGS", type := .boolean, accessFlags := 24, slot := 1, constantValue := 0 }, { name := "serialPersistentFields", type := (.array (.object "java/io/ObjectStreamField")), accessFlags := 26, slot := 2, constantValue := 0 }, { name := "REPL", type := .char, accessFlags := 26, slot := 3, constantValue := 0 }, { name := "CASE_INSENSITIVE_ORDER", type := (.object "java/util/Comparator"), accessFlags := 25, slot := 4, constantValue := 0 }, { name := "LATIN1", type := .byte, accessFlags := 24, slot := 5, constantValue := 0 }, { name := "UTF16", type := .byte, accessFlags := 24, slot := 6, constantValue := 0 }]
  methods := #[k7m0, k7m1, k7m2, k7m3]
  instanceTypes := #[(.array .byte), .byte, .int, .boolean]
  staticTypes := #[.long, .boolean, (.array (.object "java/io/ObjectStreamField")), .char, (.object "java/util/Comparator"), .byte, .byte]
  resolved := Array.replicate 1451 none
  statics := some 0 }

def pool8 : Array CpInfo := pool [(4, .class_ 6), (1, u "java/lang/Object"), (0, u "<init>"), (0, u "()V"), (5, .class_ 16), (1, u "java/lang/StringLatin1"), (73, u "canEncode"), (14, u "(C)Z"), (15, u "$assertionsDisabled"), (0, u "Z"), (98, .class_ 223), (1, u "java/lang/StringLatin1$LinesSpliterator"), (156, u "toBytes"), (1, u "(C)[B"), (7, .class_ 391), (0, u "java/lang/StringLatin1$CharsSpliterator")] 3

def k8m0 : Method := { name := "<init>", desc := "()V", sig := { parameters := [], returnType := none }, accessFlags := 0, code := none }
def k8c1 : Code := { maxStack := 2, maxLocals := 1, code := jdk_43_method_3_code, exceptionTable := #[], attributes := #[] }
def k8m1 : Method := { name := "canEncode", desc := "(C)Z", sig := { parameters := [.char], returnType := some .boolean }, accessFlags := 9, code := some k8c1 }
def k8c2 : Code := { maxStack := 4, maxLocals := 1, code := jdk_43_method_46_code, exceptionTable := #[], attributes := #[] }
def k8m2 : Method := { name := "toBytes", desc := "(C)[B", sig := { parameters := [.char], returnType := some (.array .byte) }, accessFlags := 9, code := some k8c2 }
/-- java/lang/StringLatin1 -/
def k8 : Class := { plain "java/lang/StringLatin1" (some 0) with
  accessFlags := 48
  interfaces := #[]
  cf := some (fileOf pool8 14 #[.nestMembers #[390, 221]] #[{ accessFlags := 0, nameIndex := 7, descriptorIndex := 8, attributes := #[] }, { accessFlags := 9, nameIndex := 90, descriptorIndex := 105, attributes := #[] }, { accessFlags := 9, nameIndex := 380, descriptorIndex := 382, attributes := #[] }] 48 4 #[] #[{ accessFlags := 4120, nameIndex := 121, descriptorIndex := 122, attributes := #[] }])
  fields := #[{ name := "$assertionsDisabled", type := .boolean, accessFlags := 4120, slot := 0, constantValue := 0 }]
  methods := #[k8m0, k8m1, k8m2]
  instanceTypes := #[]
  staticTypes := #[.boolean]
  resolved := Array.replicate 395 none
  statics := none }

def pool9 : Array CpInfo := pool [(2, .class_ 4), (1, u "java/lang/Enum"), (0, u "name"), (0, u "Ljava/lang/String;"), (2, u "ordinal"), (0, u "I"), (1, .class_ 14), (1, u "java/lang/Object"), (4, u "hash"), (86, .class_ 108), (1, u "java/lang/Enum$EnumDesc"), (2, .class_ 112), (0, u "java/lang/constant/Constable"), (0, .class_ 114), (0, u "java/lang/Comparable"), (0, .class_ 116), (0, u "java/io/Serializable")] 87

/-- java/lang/Enum -/
def k9 : Class := { plain "java/lang/Enum" (some 0) with
  accessFlags := 1057
  interfaces := #[5, 3, 2]
  cf := some (fileOf pool9 2 #[.nestMembers #[106]] #[] 1057 12 #[111, 113, 115] #[{ accessFlags := 18, nameIndex := 5, descriptorIndex := 6, attributes := #[] }, { accessFlags := 18, nameIndex := 9, descriptorIndex := 10, attributes := #[] }, { accessFlags := 2, nameIndex := 19, descriptorIndex := 10, attributes := #[] }])
  fields := #[{ name := "name", type := (.object "java/lang/String"), accessFlags := 18, slot := 0, constantValue := 0 }, { name := "ordinal", type := .int, accessFlags := 18, slot := 1, constantValue := 0 }, { name := "hash", type := .int, accessFlags := 2, slot := 2, constantValue := 0 }]
  methods := #[]
  instanceTypes := #[(.object "java/lang/String"), .int, .int]
  staticTypes := #[]
  resolved := Array.replicate 204 none
  statics := none }

def pool10 : Array CpInfo := pool [(1, .class_ 2), (0, u "com/example/refertario/refertario/store/Episode$Status"), (2, u "OPEN"), (0, u "Lcom/example/refertario/refertario/store/Episode$Status;"), (2, u "CLOSED"), (2, u "CANCELLED"), (2, u "$VALUES"), (0, u "[Lcom/example/refertario/refertario/store/Episode$Status;"), (6, .class_ 25), (1, u "java/lang/Enum"), (26, .class_ 53), (0, u "com/example/refertario/refertario/store/Episode")] 2

/-- com/example/refertario/refertario/store/Episode$Status -/
def k10 : Class := { plain "com/example/refertario/refertario/store/Episode$Status" (some 9) with
  accessFlags := 16433
  interfaces := #[]
  cf := some (fileOf pool10 1 #[.nestHost 52] #[] 16433 23 #[] #[{ accessFlags := 16409, nameIndex := 5, descriptorIndex := 6, attributes := #[] }, { accessFlags := 16409, nameIndex := 9, descriptorIndex := 6, attributes := #[] }, { accessFlags := 16409, nameIndex := 12, descriptorIndex := 6, attributes := #[] }, { accessFlags := 4122, nameIndex := 15, descriptorIndex := 16, attributes := #[] }])
  fields := #[{ name := "OPEN", type := (.object "com/example/refertario/refertario/store/Episode$Status"), accessFlags := 16409, slot := 0, constantValue := 0 }, { name := "CLOSED", type := (.object "com/example/refertario/refertario/store/Episode$Status"), accessFlags := 16409, slot := 1, constantValue := 0 }, { name := "CANCELLED", type := (.object "com/example/refertario/refertario/store/Episode$Status"), accessFlags := 16409, slot := 2, constantValue := 0 }, { name := "$VALUES", type := (.array (.object "com/example/refertario/refertario/store/Episode$Status")), accessFlags := 4122, slot := 3, constantValue := 0 }]
  methods := #[]
  instanceTypes := #[(.object "java/lang/String"), .int, .int]
  staticTypes := #[(.object "com/example/refertario/refertario/store/Episode$Status"), (.object "com/example/refertario/refertario/store/Episode$Status"), (.object "com/example/refertario/refertario/store/Episode$Status"), (.array (.object "com/example/refertario/refertario/store/Episode$Status"))]
  resolved := Array.replicate 56 none
  statics := some 1 }

def pool11 : Array CpInfo := pool [(1, .methodref 2 3), (0, .class_ 4), (0, .nameAndType 5 6), (0, u "java/lang/Object"), (0, u "<init>"), (0, u "()V"), (0, .class_ 8), (0, u "java/lang/Record")] 13

def k11c0 : Code := { maxStack := 1, maxLocals := 1, code := jdk_30_method_1_code, exceptionTable := #[], attributes := #[] }
def k11m0 : Method := { name := "<init>", desc := "()V", sig := { parameters := [], returnType := none }, accessFlags := 4, code := some k11c0 }
/-- java/lang/Record -/
def k11 : Class := { plain "java/lang/Record" (some 0) with
  accessFlags := 1057
  interfaces := #[]
  cf := some (fileOf pool11 7 #[] #[{ accessFlags := 4, nameIndex := 5, descriptorIndex := 6, attributes := #[] }] 1057 2 #[] #[])
  fields := #[]
  methods := #[k11m0]
  instanceTypes := #[]
  staticTypes := #[]
  resolved := Array.replicate 22 none
  statics := none }

def pool12 : Array CpInfo := pool [(1, .methodref 2 3), (0, .class_ 4), (0, .nameAndType 5 6), (0, u "java/lang/Record"), (0, u "<init>"), (0, u "()V"), (0, .fieldref 8 9), (0, .class_ 10), (0, .nameAndType 11 12), (0, u "com/example/refertario/refertario/store/Episode"), (0, u "application"), (0, u "Ljava/lang/String;"), (0, .fieldref 8 14), (0, .nameAndType 15 12), (0, u "id"), (0, .fieldref 8 17), (0, .nameAndType 18 12), (0, u "idType"), (0, .fieldref 8 20), (0, .nameAndType 21 12), (0, u "patient"), (0, .fieldref 8 23), (0, .nameAndType 24 12), (0, u "patientClass"), (0, .fieldref 8 26), (0, .nameAndType 27 12), (0, u "pointOfCare"), (0, .fieldref 8 29), (0, .nameAndType 30 12), (0, u "admitted"), (0, .fieldref 8 32), (0, .nameAndType 33 12), (0, u "discharged"), (0, .fieldref 8 35), (0, .nameAndType 36 37), (0, u "status"), (0, u "Lcom/example/refertario/refertario/store/Episode$Status;"), (1, .class_ 41), (1, u "com/example/refertario/refertario/store/Episode$Status"), (1, .methodref 8 44), (0, .nameAndType 45 46), (0, u "with"), (0, u "(Ljava/lang/String;Ljava/lang/String;Ljava/lang/String;Ljava/lang/String;Lcom/example/refertario/refertario/store/Episode$Status;)Lcom/example/refertario/refertario/store/Episode;"), (0, .methodref 8 48), (0, .nameAndType 49 50), (0, u "given"), (0, u "(Ljava/lang/String;Ljava/lang/String;)Ljava/lang/String;"), (12, .methodref 8 64), (0, .nameAndType 5 65), (0, u "(Ljava/lang/String;Ljava/lang/String;Ljava/lang/String;Ljava/lang/String;Ljava/lang/String;Ljava/lang/String;Ljava/lang/String;Ljava/lang/String;Lcom/example/refertario/refertario/store/Episode$Status;)V"), (17, u "admittedAs"), (0, u "(Lcom/example/refertario/refertario/store/Episode;)Lcom/example/refertario/refertario/store/Episode;"), (6, u "()Ljava/lang/String;"), (2, u "()Lcom/example/refertario/refertario/store/Episode$Status;")] 30

def k12c0 : Code := { maxStack := 2, maxLocals := 10, code := prog_72_method_1_code, exceptionTable := #[], attributes := #[] }
def k12m0 : Method := { name := "<init>", desc := "(Ljava/lang/String;Ljava/lang/String;Ljava/lang/String;Ljava/lang/String;Ljava/lang/String;Ljava/lang/String;Ljava/lang/String;Ljava/lang/String;Lcom/example/refertario/refertario/store/Episode$Status;)V", sig := { parameters := [(.object "java/lang/String"), (.object "java/lang/String"), (.object "java/lang/String"), (.object "java/lang/String"), (.object "java/lang/String"), (.object "java/lang/String"), (.object "java/lang/String"), (.object "java/lang/String"), (.object "com/example/refertario/refertario/store/Episode$Status")], returnType := none }, accessFlags := 1, code := some k12c0 }
def k12c1 : Code := { maxStack := 6, maxLocals := 2, code := prog_72_method_3_code, exceptionTable := #[], attributes := #[] }
def k12m1 : Method := { name := "admittedAs", desc := "(Lcom/example/refertario/refertario/store/Episode;)Lcom/example/refertario/refertario/store/Episode;", sig := { parameters := [(.object "com/example/refertario/refertario/store/Episode")], returnType := some (.object "com/example/refertario/refertario/store/Episode") }, accessFlags := 0, code := some k12c1 }
def k12c2 : Code := { maxStack := 11, maxLocals := 6, code := prog_72_method_7_code, exceptionTable := #[], attributes := #[] }
def k12m2 : Method := { name := "with", desc := "(Ljava/lang/String;Ljava/lang/String;Ljava/lang/String;Ljava/lang/String;Lcom/example/refertario/refertario/store/Episode$Status;)Lcom/example/refertario/refertario/store/Episode;", sig := { parameters := [(.object "java/lang/String"), (.object "java/lang/String"), (.object "java/lang/String"), (.object "java/lang/String"), (.object "com/example/refertario/refertario/store/Episode$Status")], returnType := some (.object "com/example/refertario/refertario/store/Episode") }, accessFlags := 2, code := some k12c2 }
def k12c3 : Code := { maxStack := 1, maxLocals := 2, code := prog_72_method_8_code, exceptionTable := #[], attributes := #[] }
def k12m3 : Method := { name := "given", desc := "(Ljava/lang/String;Ljava/lang/String;)Ljava/lang/String;", sig := { parameters := [(.object "java/lang/String"), (.object "java/lang/String")], returnType := some (.object "java/lang/String") }, accessFlags := 10, code := some k12c3 }
def k12c4 : Code := { maxStack := 1, maxLocals := 1, code := prog_72_method_12_code, exceptionTable := #[], attributes := #[] }
def k12m4 : Method := { name := "application", desc := "()Ljava/lang/String;", sig := { parameters := [], returnType := some (.object "java/lang/String") }, accessFlags := 1, code := some k12c4 }
def k12c5 : Code := { maxStack := 1, maxLocals := 1, code := prog_72_method_13_code, exceptionTable := #[], attributes := #[] }
def k12m5 : Method := { name := "id", desc := "()Ljava/lang/String;", sig := { parameters := [], returnType := some (.object "java/lang/String") }, accessFlags := 1, code := some k12c5 }
def k12c6 : Code := { maxStack := 1, maxLocals := 1, code := prog_72_method_14_code, exceptionTable := #[], attributes := #[] }
def k12m6 : Method := { name := "idType", desc := "()Ljava/lang/String;", sig := { parameters := [], returnType := some (.object "java/lang/String") }, accessFlags := 1, code := some k12c6 }
def k12c7 : Code := { maxStack := 1, maxLocals := 1, code := prog_72_method_15_code, exceptionTable := #[], attributes := #[] }
def k12m7 : Method := { name := "patient", desc := "()Ljava/lang/String;", sig := { parameters := [], returnType := some (.object "java/lang/String") }, accessFlags := 1, code := some k12c7 }
def k12c8 : Code := { maxStack := 1, maxLocals := 1, code := prog_72_method_16_code, exceptionTable := #[], attributes := #[] }
def k12m8 : Method := { name := "patientClass", desc := "()Ljava/lang/String;", sig := { parameters := [], returnType := some (.object "java/lang/String") }, accessFlags := 1, code := some k12c8 }
def k12c9 : Code := { maxStack := 1, maxLocals := 1, code := prog_72_method_17_code, exceptionTable := #[], attributes := #[] }
def k12m9 : Method := { name := "pointOfCare", desc := "()Ljava/lang/String;", sig := { parameters := [], returnType := some (.object "java/lang/String") }, accessFlags := 1, code := some k12c9 }
def k12c10 : Code := { maxStack := 1, maxLocals := 1, code := prog_72_method_18_code, exceptionTable := #[], attributes := #[] }
def k12m10 : Method := { name := "admitted", desc := "()Ljava/lang/String;", sig := { parameters := [], returnType := some (.object "java/lang/String") }, accessFlags := 1, code := some k12c10 }
def k12c11 : Code := { maxStack := 1, maxLocals := 1, code := prog_72_method_19_code, exceptionTable := #[], attributes := #[] }
def k12m11 : Method := { name := "discharged", desc := "()Ljava/lang/String;", sig := { parameters := [], returnType := some (.object "java/lang/String") }, accessFlags := 1, code := some k12c11 }
def k12c12 : Code := { maxStack := 1, maxLocals := 1, code := prog_72_method_20_code, exceptionTable := #[], attributes := #[] }
def k12m12 : Method := { name := "status", desc := "()Lcom/example/refertario/refertario/store/Episode$Status;", sig := { parameters := [], returnType := some (.object "com/example/refertario/refertario/store/Episode$Status") }, accessFlags := 1, code := some k12c12 }
/-- com/example/refertario/refertario/store/Episode -/
def k12 : Class := { plain "com/example/refertario/refertario/store/Episode" (some 11) with
  accessFlags := 49
  interfaces := #[]
  cf := some (fileOf pool12 8 #[.nestMembers #[39]] #[{ accessFlags := 1, nameIndex := 5, descriptorIndex := 65, attributes := #[] }, { accessFlags := 0, nameIndex := 83, descriptorIndex := 84, attributes := #[] }, { accessFlags := 2, nameIndex := 45, descriptorIndex := 46, attributes := #[] }, { accessFlags := 10, nameIndex := 49, descriptorIndex := 50, attributes := #[] }, { accessFlags := 1, nameIndex := 11, descriptorIndex := 91, attributes := #[] }, { accessFlags := 1, nameIndex := 15, descriptorIndex := 91, attributes := #[] }, { accessFlags := 1, nameIndex := 18, descriptorIndex := 91, attributes := #[] }, { accessFlags := 1, nameIndex := 21, descriptorIndex := 91, attributes := #[] }, { accessFlags := 1, nameIndex := 24, descriptorIndex := 91, attributes := #[] }, { accessFlags := 1, nameIndex := 27, descriptorIndex := 91, attributes := #[] }, { accessFlags := 1, nameIndex := 30, descriptorIndex := 91, attributes := #[] }, { accessFlags := 1, nameIndex := 33, descriptorIndex := 91, attributes := #[] }, { accessFlags := 1, nameIndex := 36, descriptorIndex := 94, attributes := #[] }] 49 2 #[] #[{ accessFlags := 18, nameIndex := 11, descriptorIndex := 12, attributes := #[] }, { accessFlags := 18, nameIndex := 15, descriptorIndex := 12, attributes := #[] }, { accessFlags := 18, nameIndex := 18, descriptorIndex := 12, attributes := #[] }, { accessFlags := 18, nameIndex := 21, descriptorIndex := 12, attributes := #[] }, { accessFlags := 18, nameIndex := 24, descriptorIndex := 12, attributes := #[] }, { accessFlags := 18, nameIndex := 27, descriptorIndex := 12, attributes := #[] }, { accessFlags := 18, nameIndex := 30, descriptorIndex := 12, attributes := #[] }, { accessFlags := 18, nameIndex := 33, descriptorIndex := 12, attributes := #[] }, { accessFlags := 18, nameIndex := 36, descriptorIndex := 37, attributes := #[] }])
  fields := #[{ name := "application", type := (.object "java/lang/String"), accessFlags := 18, slot := 0, constantValue := 0 }, { name := "id", type := (.object "java/lang/String"), accessFlags := 18, slot := 1, constantValue := 0 }, { name := "idType", type := (.object "java/lang/String"), accessFlags := 18, slot := 2, constantValue := 0 }, { name := "patient", type := (.object "java/lang/String"), accessFlags := 18, slot := 3, constantValue := 0 }, { name := "patientClass", type := (.object "java/lang/String"), accessFlags := 18, slot := 4, constantValue := 0 }, { name := "pointOfCare", type := (.object "java/lang/String"), accessFlags := 18, slot := 5, constantValue := 0 }, { name := "admitted", type := (.object "java/lang/String"), accessFlags := 18, slot := 6, constantValue := 0 }, { name := "discharged", type := (.object "java/lang/String"), accessFlags := 18, slot := 7, constantValue := 0 }, { name := "status", type := (.object "com/example/refertario/refertario/store/Episode$Status"), accessFlags := 18, slot := 8, constantValue := 0 }]
  methods := #[k12m0, k12m1, k12m2, k12m3, k12m4, k12m5, k12m6, k12m7, k12m8, k12m9, k12m10, k12m11, k12m12]
  instanceTypes := #[(.object "java/lang/String"), (.object "java/lang/String"), (.object "java/lang/String"), (.object "java/lang/String"), (.object "java/lang/String"), (.object "java/lang/String"), (.object "java/lang/String"), (.object "java/lang/String"), (.object "com/example/refertario/refertario/store/Episode$Status")]
  staticTypes := #[]
  resolved := Array.replicate 125 none
  statics := none }

def pool13 : Array CpInfo := pool [(2, .class_ 4), (1, u "java/lang/Object"), (0, u "<init>"), (0, u "()V"), (17, .class_ 26), (1, u "jdk/internal/util/Preconditions"), (28, .class_ 56), (0, u "jdk/internal/util/Preconditions$4"), (57, .class_ 115), (0, u "jdk/internal/util/Preconditions$1"), (7, u "SIOOBE_FORMATTER"), (0, u "Ljava/util/function/BiFunction;"), (0, .class_ 126), (0, u "jdk/internal/util/Preconditions$2"), (3, u "AIOOBE_FORMATTER"), (0, .class_ 132), (0, u "jdk/internal/util/Preconditions$3"), (3, u "IOOBE_FORMATTER")] 57

def k13m0 : Method := { name := "<init>", desc := "()V", sig := { parameters := [], returnType := none }, accessFlags := 1, code := none }
/-- jdk/internal/util/Preconditions -/
def k13 : Class := { plain "jdk/internal/util/Preconditions" (some 0) with
  accessFlags := 33
  interfaces := #[]
  cf := some (fileOf pool13 24 #[.nestMembers #[55, 131, 125, 114]] #[{ accessFlags := 1, nameIndex := 5, descriptorIndex := 6, attributes := #[] }] 33 2 #[] #[{ accessFlags := 25, nameIndex := 123, descriptorIndex := 124, attributes := #[] }, { accessFlags := 25, nameIndex := 130, descriptorIndex := 124, attributes := #[] }, { accessFlags := 25, nameIndex := 136, descriptorIndex := 124, attributes := #[] }])
  fields := #[{ name := "SIOOBE_FORMATTER", type := (.object "java/util/function/BiFunction"), accessFlags := 25, slot := 0, constantValue := 0 }, { name := "AIOOBE_FORMATTER", type := (.object "java/util/function/BiFunction"), accessFlags := 25, slot := 1, constantValue := 0 }, { name := "IOOBE_FORMATTER", type := (.object "java/util/function/BiFunction"), accessFlags := 25, slot := 2, constantValue := 0 }]
  methods := #[k13m0]
  instanceTypes := #[]
  staticTypes := #[(.object "java/util/function/BiFunction"), (.object "java/util/function/BiFunction"), (.object "java/util/function/BiFunction")]
  resolved := Array.replicate 194 none
  statics := some 2 }

def pool14 : Array CpInfo := pool [(9, u "<init>"), (6, .class_ 18), (1, u "java/lang/Object"), (0, u "()V"), (1, .class_ 23), (1, u "jdk/internal/util/ArraysSupport"), (0, u "LOG2_ARRAY_LONG_INDEX_SCALE"), (0, u "I"), (2, u "U"), (0, u "Ljdk/internal/misc/Unsafe;"), (8, u "BIG_ENDIAN"), (0, u "Z"), (8, u "LOG2_BYTE_BIT_SIZE"), (4, u "LOG2_ARRAY_INT_INDEX_SCALE"), (54, u "JLA"), (0, u "Ljdk/internal/access/JavaLangAccess;"), (11, u "LOG2_ARRAY_BOOLEAN_INDEX_SCALE"), (9, u "LOG2_ARRAY_BYTE_INDEX_SCALE"), (5, u "LOG2_ARRAY_CHAR_INDEX_SCALE"), (5, u "LOG2_ARRAY_SHORT_INDEX_SCALE"), (18, u "LOG2_ARRAY_FLOAT_INDEX_SCALE"), (24, u "LOG2_ARRAY_DOUBLE_INDEX_SCALE"), (89, u "T_BOOLEAN"), (2, u "T_CHAR"), (1, u "T_FLOAT"), (1, u "T_DOUBLE"), (1, u "T_BYTE"), (1, u "T_SHORT"), (1, u "T_INT"), (1, u "T_LONG"), (1, u "SOFT_MAX_ARRAY_LENGTH")] 83

def k14m0 : Method := { name := "<init>", desc := "()V", sig := { parameters := [], returnType := none }, accessFlags := 2, code := none }
/-- jdk/internal/util/ArraysSupport -/
def k14 : Class := { plain "jdk/internal/util/ArraysSupport" (some 0) with
  accessFlags := 33
  interfaces := #[]
  cf := some (fileOf pool14 21 #[] #[{ accessFlags := 2, nameIndex := 9, descriptorIndex := 19, attributes := #[] }] 33 16 #[] #[{ accessFlags := 24, nameIndex := 28, descriptorIndex := 29, attributes := #[] }, { accessFlags := 26, nameIndex := 38, descriptorIndex := 39, attributes := #[] }, { accessFlags := 25, nameIndex := 121, descriptorIndex := 25, attributes := #[] }, { accessFlags := 25, nameIndex := 131, descriptorIndex := 25, attributes := #[] }, { accessFlags := 25, nameIndex := 137, descriptorIndex := 25, attributes := #[] }, { accessFlags := 25, nameIndex := 143, descriptorIndex := 25, attributes := #[] }, { accessFlags := 25, nameIndex := 53, descriptorIndex := 25, attributes := #[] }, { accessFlags := 25, nameIndex := 24, descriptorIndex := 25, attributes := #[] }, { accessFlags := 25, nameIndex := 162, descriptorIndex := 25, attributes := #[] }, { accessFlags := 25, nameIndex := 187, descriptorIndex := 25, attributes := #[] }, { accessFlags := 26, nameIndex := 48, descriptorIndex := 25, attributes := #[] }, { accessFlags := 25, nameIndex := 277, descriptorIndex := 25, attributes := #[] }, { accessFlags := 25, nameIndex := 280, descriptorIndex := 25, attributes := #[] }, { accessFlags := 25, nameIndex := 282, descriptorIndex := 25, attributes := #[] }, { accessFlags := 25, nameIndex := 284, descriptorIndex := 25, attributes := #[] }, { accessFlags := 25, nameIndex := 286, descriptorIndex := 25, attributes := #[] }, { accessFlags := 25, nameIndex := 288, descriptorIndex := 25, attributes := #[] }, { accessFlags := 25, nameIndex := 290, descriptorIndex := 25, attributes := #[] }, { accessFlags := 25, nameIndex := 292, descriptorIndex := 25, attributes := #[] }, { accessFlags := 26, nameIndex := 108, descriptorIndex := 109, attributes := #[] }, { accessFlags := 25, nameIndex := 294, descriptorIndex := 25, attributes := #[] }])
  fields := #[{ name := "U", type := (.object "jdk/internal/misc/Unsafe"), accessFlags := 24, slot := 0, constantValue := 0 }, { name := "BIG_ENDIAN", type := .boolean, accessFlags := 26, slot := 1, constantValue := 0 }, { name := "LOG2_ARRAY_BOOLEAN_INDEX_SCALE", type := .int, accessFlags := 25, slot := 2, constantValue := 0 }, { name := "LOG2_ARRAY_BYTE_INDEX_SCALE", type := .int, accessFlags := 25, slot := 3, constantValue := 0 }, { name := "LOG2_ARRAY_CHAR_INDEX_SCALE", type := .int, accessFlags := 25, slot := 4, constantValue := 0 }, { name := "LOG2_ARRAY_SHORT_INDEX_SCALE", type := .int, accessFlags := 25, slot := 5, constantValue := 0 }, { name := "LOG2_ARRAY_INT_INDEX_SCALE", type := .int, accessFlags := 25, slot := 6, constantValue := 0 }, { name := "LOG2_ARRAY_LONG_INDEX_SCALE", type := .int, accessFlags := 25, slot := 7, constantValue := 0 }, { name := "LOG2_ARRAY_FLOAT_INDEX_SCALE", type := .int, accessFlags := 25, slot := 8, constantValue := 0 }, { name := "LOG2_ARRAY_DOUBLE_INDEX_SCALE", type := .int, accessFlags := 25, slot := 9, constantValue := 0 }, { name := "LOG2_BYTE_BIT_SIZE", type := .int, accessFlags := 26, slot := 10, constantValue := 0 }, { name := "T_BOOLEAN", type := .int, accessFlags := 25, slot := 11, constantValue := 0 }, { name := "T_CHAR", type := .int, accessFlags := 25, slot := 12, constantValue := 0 }, { name := "T_FLOAT", type := .int, accessFlags := 25, slot := 13, constantValue := 0 }, { name := "T_DOUBLE", type := .int, accessFlags := 25, slot := 14, constantValue := 0 }, { name := "T_BYTE", type := .int, accessFlags := 25, slot := 15, constantValue := 0 }, { name := "T_SHORT", type := .int, accessFlags := 25, slot := 16, constantValue := 0 }, { name := "T_INT", type := .int, accessFlags := 25, slot := 17, constantValue := 0 }, { name := "T_LONG", type := .int, accessFlags := 25, slot := 18, constantValue := 0 }, { name := "JLA", type := (.object "jdk/internal/access/JavaLangAccess"), accessFlags := 26, slot := 19, constantValue := 0 }, { name := "SOFT_MAX_ARRAY_LENGTH", type := .int, accessFlags := 25, slot := 20, constantValue := 0 }]
  methods := #[k14m0]
  instanceTypes := #[]
  staticTypes := #[(.object "jdk/internal/misc/Unsafe"), .boolean, .int, .int, .int, .int, .int, .int, .int, .int, .int, .int, .int, .int, .int, .int, .int, .int, .int, (.object "jdk/internal/access/JavaLangAccess"), .int]
  resolved := Array.replicate 378 none
  statics := none }

def pool15 : Array CpInfo := pool [(1, u "java/lang/Cloneable"), (0, .class_ 1), (0, u "java/lang/Object"), (0, .class_ 3)] 3

/-- java/lang/Cloneable -/
def k15 : Class := { plain "java/lang/Cloneable" (some 0) with
  accessFlags := 1537
  interfaces := #[]
  cf := some (fileOf pool15 2 #[] #[] 1537 4 #[] #[])
  fields := #[]
  methods := #[]
  instanceTypes := #[]
  staticTypes := #[]
  resolved := Array.replicate 8 none
  statics := none }

/-- the primitive byte -/
def k16 : Class := { plain "byte" none with kind := .primitive 'B', accessFlags := 0x411 }
/-- [B -/
def k17 : Class := { plain "[B" (some 0) with kind := .array 16 .byte, interfaces := #[15, 2], accessFlags := 1041 }

def heap : Heap := #[{ cls := 7, slots := #[.long 0, .int 1, .null, .int 0, .null, .int 0, .int 0], vm := .statics 7 },
  { cls := 10, slots := #[.ref 3, .ref 4, .ref 5, .null], vm := .statics 10 },
  { cls := 13, slots := #[.null, .null, .null], vm := .statics 13 },
  { cls := 10, slots := #[.null, .int 0, .int 0], vm := .none },
  { cls := 10, slots := #[.null, .int 1, .int 0], vm := .none },
  { cls := 10, slots := #[.null, .int 2, .int 0], vm := .none }]
def classes : Array Class := #[k0, k1, k2, k3, k4, k5, k6, k7, k8, k9, k10, k11, k12, k13, k14, k15, k16, k17]
def interned : List (Array UInt16 × Addr) := []
def slotsUsed : Nat := 23
def theMethod : MethodId := ⟨1, 1⟩
def args0 : Array Value := #[.int 5, .int 3, .int 4, .int 6, .int 7, .int 8]
def aboutOver (below : List Frame) : State where
  vm := { classes := classes, interned := interned.toArray }
  heap := heap
  slotsUsed := slotsUsed
  threads := #[{ frames := .invoking theMethod args0 :: below }]
def below0 : List Frame := [.native { method := ⟨0, 0⟩, args := #[] }]
def about1 : State := aboutOver below0
def p0 : Program := .bare "" "" ""
def e0 : Env := launch0.env 0 0 0
theorem w_frames : about1.frames = Frame.invoking theMethod args0 :: below0 := rfl
set_option maxRecDepth 65536 in
theorem w_args : argsFit about1.vm theMethod args0 = true := by decide +kernel
set_option maxRecDepth 65536 in
theorem w_heap : heapFits about1 = true := by decide +kernel
set_option maxRecDepth 65536 in
theorem w_runnable : about1.curStatus? = some .runnable := by decide +kernel
set_option maxRecDepth 65536 in
theorem w_alone : about1.alone = true := by decide +kernel
set_option maxRecDepth 65536 in
theorem w_named : about1.methodNamed? x = some theMethod := by decide +kernel
set_option maxRecDepth 65536 in
theorem w_hears : about1.hears theMethod below0 = true := by decide +kernel
set_option maxRecDepth 65536 in
theorem w_ripe : about1.ripe theMethod args0 below0 = true := by decide +kernel
theorem w_running : about1.status = .running := rfl
set_option maxRecDepth 65536 in
theorem w_room : about1.hasRoom e0.platform room_1 = true :=
  launch0.hasRoom_least _ room_1 (by decide +kernel) (by decide +kernel) (by decide +kernel) (by decide +kernel) (by decide +kernel) (by decide +kernel)
theorem allAtoms_all (ts : List Jvm.Cond) (a : Array Jvm.Value) (st : Jvm.State) : (allAtoms ts).before a st = ts.all (fun c => c.before a st) := by
  induction ts with
  | nil => rfl
  | cons c t ih =>
    show (Jvm.Cond.and c (allAtoms t)).before a st = _
    rw [Jvm.Cond.before_and, ih, List.all_cons]
def words1 : List Jvm.Cond := Jvm.Cond.code x code maxLocals ret :: tables_1
/-- a 'code' word, met by the world's own term for the bytes: nothing is compared byte by byte -/
theorem code_word {y : MethodName} {bytes : ByteArray} {mx : Nat} {rt : Option FieldType} {a : Array Value} {s : State} {m : MethodId} {meth : Method} {c : Code} (h1 : s.methodNamed? y = some m) (h2 : s.vm.method? m = some meth) (h3 : meth.code = some c) (h4 : c.code = bytes)
    (h5 : (c.maxLocals == mx && c.exceptionTable.isEmpty && decide (c.maxStack ≤ mostOperands) && decide (meth.sig.returnType = rt) && !meth.locks && decide (parseMethodDescriptor y.desc = some meth.sig)) = true) : (Jvm.Cond.code y bytes mx rt).before a s = true := by
  simp only [Bool.and_eq_true, beq_iff_eq, Bool.not_eq_true', decide_eq_true_eq] at h5
  obtain ⟨⟨⟨⟨⟨g1, g2⟩, g3⟩, g4⟩, g5⟩, g6⟩ := h5
  simp [Cond.before, Cond.holds, Cond.value, h1, h2, h3, h4, g1, g2, g3, g4, g5, g6]
def isCode : Jvm.Cond → Bool
  | .code _ _ _ _ => true
  | _ => false
theorem all_split {L : List Jvm.Cond} {P : Jvm.Cond → Bool} (h1 : L.all (fun c => isCode c || P c) = true) (h2 : ∀ c ∈ L.filter isCode, P c = true) : L.all P = true := by
  refine List.all_eq_true.mpr fun c hc => ?_
  have h := List.all_eq_true.mp h1 c hc
  rcases Bool.eq_false_or_eq_true (isCode c) with hi | hi
  · exact h2 c (List.mem_filter.mpr ⟨hc, hi⟩)
  · simpa [hi] using h
set_option maxRecDepth 65536 in
theorem w_c0 : (Jvm.Cond.code x code maxLocals ret).before args0 about1 = true := code_word (m := ⟨1, 1⟩) (meth := k1m1) (c := k1c1) (by decide +kernel) rfl rfl rfl (by decide +kernel)
set_option maxRecDepth 65536 in
theorem w_c1 : (Jvm.Cond.code ({ cls := "com/example/refertario/refertario/store/EpisodeAdmittedAsPinLaw", name := "ch", desc := "(II)Ljava/lang/String;" } : Jvm.MethodName) method_3_code (2 : Nat) (Option.some (Jvm.ClassFile.FieldType.object "java/lang/String"))).before args0 about1 = true := code_word (m := ⟨1, 2⟩) (meth := k1m2) (c := k1c2) (by decide +kernel) rfl rfl rfl (by decide +kernel)
set_option maxRecDepth 65536 in
theorem w_c2 : (Jvm.Cond.code ({ cls := "java/lang/String", name := "valueOf", desc := "(C)Ljava/lang/String;" } : Jvm.MethodName) jdk_42_method_139_code (1 : Nat) (Option.some (Jvm.ClassFile.FieldType.object "java/lang/String"))).before args0 about1 = true := code_word (m := ⟨7, 2⟩) (meth := k7m2) (c := k7c2) (by decide +kernel) rfl rfl rfl (by decide +kernel)
set_option maxRecDepth 65536 in
theorem w_c3 : (Jvm.Cond.code ({ cls := "java/lang/StringLatin1", name := "canEncode", desc := "(C)Z" } : Jvm.MethodName) jdk_43_method_3_code (1 : Nat) (Option.some Jvm.ClassFile.FieldType.boolean)).before args0 about1 = true := code_word (m := ⟨8, 1⟩) (meth := k8m1) (c := k8c1) (by decide +kernel) rfl rfl rfl (by decide +kernel)
set_option maxRecDepth 65536 in
theorem w_c4 : (Jvm.Cond.code ({ cls := "java/lang/StringLatin1", name := "toBytes", desc := "(C)[B" } : Jvm.MethodName) jdk_43_method_46_code (1 : Nat) (Option.some (Jvm.ClassFile.FieldType.array Jvm.ClassFile.FieldType.byte))).before args0 about1 = true := code_word (m := ⟨8, 2⟩) (meth := k8m2) (c := k8c2) (by decide +kernel) rfl rfl rfl (by decide +kernel)
set_option maxRecDepth 65536 in
theorem w_c5 : (Jvm.Cond.code ({ cls := "java/lang/String", name := "<init>", desc := "([BB)V" } : Jvm.MethodName) jdk_42_method_151_code (3 : Nat) (Option.none : Option Jvm.ClassFile.FieldType)).before args0 about1 = true := code_word (m := ⟨7, 3⟩) (meth := k7m3) (c := k7c3) (by decide +kernel) rfl rfl rfl (by decide +kernel)
set_option maxRecDepth 65536 in
theorem w_c6 : (Jvm.Cond.code ({ cls := "java/lang/Object", name := "<init>", desc := "()V" } : Jvm.MethodName) object_method_1_code (1 : Nat) (Option.none : Option Jvm.ClassFile.FieldType)).before args0 about1 = true := code_word (m := ⟨0, 0⟩) (meth := k0m0) (c := k0c0) (by decide +kernel) rfl rfl rfl (by decide +kernel)
set_option maxRecDepth 65536 in
theorem w_c7 : (Jvm.Cond.code ({ cls := "com/example/refertario/refertario/store/EpisodeAdmittedAsPinLaw", name := "status", desc := "(I)Lcom/example/refertario/refertario/store/Episode$Status;" } : Jvm.MethodName) method_4_code (2 : Nat) (Option.some (Jvm.ClassFile.FieldType.object "com/example/refertario/refertario/store/Episode$Status"))).before args0 about1 = true := code_word (m := ⟨1, 3⟩) (meth := k1m3) (c := k1c3) (by decide +kernel) rfl rfl rfl (by decide +kernel)
set_option maxRecDepth 65536 in
theorem w_c8 : (Jvm.Cond.code ({ cls := "com/example/refertario/refertario/store/Episode", name := "<init>", desc := "(Ljava/lang/String;Ljava/lang/String;Ljava/lang/String;Ljava/lang/String;Ljava/lang/String;Ljava/lang/String;Ljava/lang/String;Ljava/lang/String;Lcom/example/refertario/refertario/store/Episode$Status;)V" } : Jvm.MethodName) prog_72_method_1_code (10 : Nat) (Option.none : Option Jvm.ClassFile.FieldType)).before args0 about1 = true := code_word (m := ⟨12, 0⟩) (meth := k12m0) (c := k12c0) (by decide +kernel) rfl rfl rfl (by decide +kernel)
set_option maxRecDepth 65536 in
theorem w_c9 : (Jvm.Cond.code ({ cls := "java/lang/Record", name := "<init>", desc := "()V" } : Jvm.MethodName) jdk_30_method_1_code (1 : Nat) (Option.none : Option Jvm.ClassFile.FieldType)).before args0 about1 = true := code_word (m := ⟨11, 0⟩) (meth := k11m0) (c := k11c0) (by decide +kernel) rfl rfl rfl (by decide +kernel)
set_option maxRecDepth 65536 in
theorem w_c10 : (Jvm.Cond.code ({ cls := "com/example/refertario/refertario/store/Episode", name := "admittedAs", desc := "(Lcom/example/refertario/refertario/store/Episode;)Lcom/example/refertario/refertario/store/Episode;" } : Jvm.MethodName) prog_72_method_3_code (2 : Nat) (Option.some (Jvm.ClassFile.FieldType.object "com/example/refertario/refertario/store/Episode"))).before args0 about1 = true := code_word (m := ⟨12, 1⟩) (meth := k12m1) (c := k12c1) (by decide +kernel) rfl rfl rfl (by decide +kernel)
set_option maxRecDepth 65536 in
theorem w_c11 : (Jvm.Cond.code ({ cls := "com/example/refertario/refertario/store/Episode", name := "given", desc := "(Ljava/lang/String;Ljava/lang/String;)Ljava/lang/String;" } : Jvm.MethodName) prog_72_method_8_code (2 : Nat) (Option.some (Jvm.ClassFile.FieldType.object "java/lang/String"))).before args0 about1 = true := code_word (m := ⟨12, 3⟩) (meth := k12m3) (c := k12c3) (by decide +kernel) rfl rfl rfl (by decide +kernel)
set_option maxRecDepth 65536 in
theorem w_c12 : (Jvm.Cond.code ({ cls := "com/example/refertario/refertario/store/Episode", name := "with", desc := "(Ljava/lang/String;Ljava/lang/String;Ljava/lang/String;Ljava/lang/String;Lcom/example/refertario/refertario/store/Episode$Status;)Lcom/example/refertario/refertario/store/Episode;" } : Jvm.MethodName) prog_72_method_7_code (6 : Nat) (Option.some (Jvm.ClassFile.FieldType.object "com/example/refertario/refertario/store/Episode"))).before args0 about1 = true := code_word (m := ⟨12, 2⟩) (meth := k12m2) (c := k12c2) (by decide +kernel) rfl rfl rfl (by decide +kernel)
set_option maxRecDepth 65536 in
theorem w_c13 : (Jvm.Cond.code ({ cls := "com/example/refertario/refertario/store/Episode", name := "application", desc := "()Ljava/lang/String;" } : Jvm.MethodName) prog_72_method_12_code (1 : Nat) (Option.some (Jvm.ClassFile.FieldType.object "java/lang/String"))).before args0 about1 = true := code_word (m := ⟨12, 4⟩) (meth := k12m4) (c := k12c4) (by decide +kernel) rfl rfl rfl (by decide +kernel)
set_option maxRecDepth 65536 in
theorem w_c14 : (Jvm.Cond.code ({ cls := "com/example/refertario/refertario/store/EpisodeAdmittedAsPinLaw", name := "eq", desc := "(Ljava/lang/String;Ljava/lang/String;)Z" } : Jvm.MethodName) method_5_code (2 : Nat) (Option.some Jvm.ClassFile.FieldType.boolean)).before args0 about1 = true := code_word (m := ⟨1, 4⟩) (meth := k1m4) (c := k1c4) (by decide +kernel) rfl rfl rfl (by decide +kernel)
set_option maxRecDepth 65536 in
theorem w_c15 : (Jvm.Cond.code ({ cls := "java/lang/String", name := "equals", desc := "(Ljava/lang/Object;)Z" } : Jvm.MethodName) jdk_42_method_66_code (3 : Nat) (Option.some Jvm.ClassFile.FieldType.boolean)).before args0 about1 = true := code_word (m := ⟨7, 1⟩) (meth := k7m1) (c := k7c1) (by decide +kernel) rfl rfl rfl (by decide +kernel)
set_option maxRecDepth 65536 in
theorem w_c16 : (Jvm.Cond.code ({ cls := "com/example/refertario/refertario/store/Episode", name := "id", desc := "()Ljava/lang/String;" } : Jvm.MethodName) prog_72_method_13_code (1 : Nat) (Option.some (Jvm.ClassFile.FieldType.object "java/lang/String"))).before args0 about1 = true := code_word (m := ⟨12, 5⟩) (meth := k12m5) (c := k12c5) (by decide +kernel) rfl rfl rfl (by decide +kernel)
set_option maxRecDepth 65536 in
theorem w_c17 : (Jvm.Cond.code ({ cls := "com/example/refertario/refertario/store/Episode", name := "idType", desc := "()Ljava/lang/String;" } : Jvm.MethodName) prog_72_method_14_code (1 : Nat) (Option.some (Jvm.ClassFile.FieldType.object "java/lang/String"))).before args0 about1 = true := code_word (m := ⟨12, 6⟩) (meth := k12m6) (c := k12c6) (by decide +kernel) rfl rfl rfl (by decide +kernel)
set_option maxRecDepth 65536 in
theorem w_c18 : (Jvm.Cond.code ({ cls := "com/example/refertario/refertario/store/Episode", name := "patient", desc := "()Ljava/lang/String;" } : Jvm.MethodName) prog_72_method_15_code (1 : Nat) (Option.some (Jvm.ClassFile.FieldType.object "java/lang/String"))).before args0 about1 = true := code_word (m := ⟨12, 7⟩) (meth := k12m7) (c := k12c7) (by decide +kernel) rfl rfl rfl (by decide +kernel)
set_option maxRecDepth 65536 in
theorem w_c19 : (Jvm.Cond.code ({ cls := "com/example/refertario/refertario/store/Episode", name := "patientClass", desc := "()Ljava/lang/String;" } : Jvm.MethodName) prog_72_method_16_code (1 : Nat) (Option.some (Jvm.ClassFile.FieldType.object "java/lang/String"))).before args0 about1 = true := code_word (m := ⟨12, 8⟩) (meth := k12m8) (c := k12c8) (by decide +kernel) rfl rfl rfl (by decide +kernel)
set_option maxRecDepth 65536 in
theorem w_c20 : (Jvm.Cond.code ({ cls := "com/example/refertario/refertario/store/Episode", name := "pointOfCare", desc := "()Ljava/lang/String;" } : Jvm.MethodName) prog_72_method_17_code (1 : Nat) (Option.some (Jvm.ClassFile.FieldType.object "java/lang/String"))).before args0 about1 = true := code_word (m := ⟨12, 9⟩) (meth := k12m9) (c := k12c9) (by decide +kernel) rfl rfl rfl (by decide +kernel)
set_option maxRecDepth 65536 in
theorem w_c21 : (Jvm.Cond.code ({ cls := "com/example/refertario/refertario/store/Episode", name := "admitted", desc := "()Ljava/lang/String;" } : Jvm.MethodName) prog_72_method_18_code (1 : Nat) (Option.some (Jvm.ClassFile.FieldType.object "java/lang/String"))).before args0 about1 = true := code_word (m := ⟨12, 10⟩) (meth := k12m10) (c := k12c10) (by decide +kernel) rfl rfl rfl (by decide +kernel)
set_option maxRecDepth 65536 in
theorem w_c22 : (Jvm.Cond.code ({ cls := "com/example/refertario/refertario/store/Episode", name := "discharged", desc := "()Ljava/lang/String;" } : Jvm.MethodName) prog_72_method_19_code (1 : Nat) (Option.some (Jvm.ClassFile.FieldType.object "java/lang/String"))).before args0 about1 = true := code_word (m := ⟨12, 11⟩) (meth := k12m11) (c := k12c11) (by decide +kernel) rfl rfl rfl (by decide +kernel)
set_option maxRecDepth 65536 in
theorem w_c23 : (Jvm.Cond.code ({ cls := "com/example/refertario/refertario/store/Episode", name := "status", desc := "()Lcom/example/refertario/refertario/store/Episode$Status;" } : Jvm.MethodName) prog_72_method_20_code (1 : Nat) (Option.some (Jvm.ClassFile.FieldType.object "com/example/refertario/refertario/store/Episode$Status"))).before args0 about1 = true := code_word (m := ⟨12, 12⟩) (meth := k12m12) (c := k12c12) (by decide +kernel) rfl rfl rfl (by decide +kernel)
def codes1 : List Jvm.Cond := [Jvm.Cond.code x code maxLocals ret, Jvm.Cond.code ({ cls := "com/example/refertario/refertario/store/EpisodeAdmittedAsPinLaw", name := "ch", desc := "(II)Ljava/lang/String;" } : Jvm.MethodName) method_3_code (2 : Nat) (Option.some (Jvm.ClassFile.FieldType.object "java/lang/String")), Jvm.Cond.code ({ cls := "java/lang/String", name := "valueOf", desc := "(C)Ljava/lang/String;" } : Jvm.MethodName) jdk_42_method_139_code (1 : Nat) (Option.some (Jvm.ClassFile.FieldType.object "java/lang/String")), Jvm.Cond.code ({ cls := "java/lang/StringLatin1", name := "canEncode", desc := "(C)Z" } : Jvm.MethodName) jdk_43_method_3_code (1 : Nat) (Option.some Jvm.ClassFile.FieldType.boolean), Jvm.Cond.code ({ cls := "java/lang/StringLatin1", name := "toBytes", desc := "(C)[B" } : Jvm.MethodName) jdk_43_method_46_code (1 : Nat) (Option.some (Jvm.ClassFile.FieldType.array Jvm.ClassFile.FieldType.byte)), Jvm.Cond.code ({ cls := "java/lang/String", name := "<init>", desc := "([BB)V" } : Jvm.MethodName) jdk_42_method_151_code (3 : Nat) (Option.none : Option Jvm.ClassFile.FieldType), Jvm.Cond.code ({ cls := "java/lang/Object", name := "<init>", desc := "()V" } : Jvm.MethodName) object_method_1_code (1 : Nat) (Option.none : Option Jvm.ClassFile.FieldType), Jvm.Cond.code ({ cls := "com/example/refertario/refertario/store/EpisodeAdmittedAsPinLaw", name := "status", desc := "(I)Lcom/example/refertario/refertario/store/Episode$Status;" } : Jvm.MethodName) method_4_code (2 : Nat) (Option.some (Jvm.ClassFile.FieldType.object "com/example/refertario/refertario/store/Episode$Status")), Jvm.Cond.code ({ cls := "com/example/refertario/refertario/store/Episode", name := "<init>", desc := "(Ljava/lang/String;Ljava/lang/String;Ljava/lang/String;Ljava/lang/String;Ljava/lang/String;Ljava/lang/String;Ljava/lang/String;Ljava/lang/String;Lcom/example/refertario/refertario/store/Episode$Status;)V" } : Jvm.MethodName) prog_72_method_1_code (10 : Nat) (Option.none : Option Jvm.ClassFile.FieldType), Jvm.Cond.code ({ cls := "java/lang/Record", name := "<init>", desc := "()V" } : Jvm.MethodName) jdk_30_method_1_code (1 : Nat) (Option.none : Option Jvm.ClassFile.FieldType), Jvm.Cond.code ({ cls := "com/example/refertario/refertario/store/Episode", name := "admittedAs", desc := "(Lcom/example/refertario/refertario/store/Episode;)Lcom/example/refertario/refertario/store/Episode;" } : Jvm.MethodName) prog_72_method_3_code (2 : Nat) (Option.some (Jvm.ClassFile.FieldType.object "com/example/refertario/refertario/store/Episode")), Jvm.Cond.code ({ cls := "com/example/refertario/refertario/store/Episode", name := "given", desc := "(Ljava/lang/String;Ljava/lang/String;)Ljava/lang/String;" } : Jvm.MethodName) prog_72_method_8_code (2 : Nat) (Option.some (Jvm.ClassFile.FieldType.object "java/lang/String")), Jvm.Cond.code ({ cls := "com/example/refertario/refertario/store/Episode", name := "with", desc := "(Ljava/lang/String;Ljava/lang/String;Ljava/lang/String;Ljava/lang/String;Lcom/example/refertario/refertario/store/Episode$Status;)Lcom/example/refertario/refertario/store/Episode;" } : Jvm.MethodName) prog_72_method_7_code (6 : Nat) (Option.some (Jvm.ClassFile.FieldType.object "com/example/refertario/refertario/store/Episode")), Jvm.Cond.code ({ cls := "com/example/refertario/refertario/store/Episode", name := "application", desc := "()Ljava/lang/String;" } : Jvm.MethodName) prog_72_method_12_code (1 : Nat) (Option.some (Jvm.ClassFile.FieldType.object "java/lang/String")), Jvm.Cond.code ({ cls := "com/example/refertario/refertario/store/EpisodeAdmittedAsPinLaw", name := "eq", desc := "(Ljava/lang/String;Ljava/lang/String;)Z" } : Jvm.MethodName) method_5_code (2 : Nat) (Option.some Jvm.ClassFile.FieldType.boolean), Jvm.Cond.code ({ cls := "java/lang/String", name := "equals", desc := "(Ljava/lang/Object;)Z" } : Jvm.MethodName) jdk_42_method_66_code (3 : Nat) (Option.some Jvm.ClassFile.FieldType.boolean), Jvm.Cond.code ({ cls := "com/example/refertario/refertario/store/Episode", name := "id", desc := "()Ljava/lang/String;" } : Jvm.MethodName) prog_72_method_13_code (1 : Nat) (Option.some (Jvm.ClassFile.FieldType.object "java/lang/String")), Jvm.Cond.code ({ cls := "com/example/refertario/refertario/store/Episode", name := "idType", desc := "()Ljava/lang/String;" } : Jvm.MethodName) prog_72_method_14_code (1 : Nat) (Option.some (Jvm.ClassFile.FieldType.object "java/lang/String")), Jvm.Cond.code ({ cls := "com/example/refertario/refertario/store/Episode", name := "patient", desc := "()Ljava/lang/String;" } : Jvm.MethodName) prog_72_method_15_code (1 : Nat) (Option.some (Jvm.ClassFile.FieldType.object "java/lang/String")), Jvm.Cond.code ({ cls := "com/example/refertario/refertario/store/Episode", name := "patientClass", desc := "()Ljava/lang/String;" } : Jvm.MethodName) prog_72_method_16_code (1 : Nat) (Option.some (Jvm.ClassFile.FieldType.object "java/lang/String")), Jvm.Cond.code ({ cls := "com/example/refertario/refertario/store/Episode", name := "pointOfCare", desc := "()Ljava/lang/String;" } : Jvm.MethodName) prog_72_method_17_code (1 : Nat) (Option.some (Jvm.ClassFile.FieldType.object "java/lang/String")), Jvm.Cond.code ({ cls := "com/example/refertario/refertario/store/Episode", name := "admitted", desc := "()Ljava/lang/String;" } : Jvm.MethodName) prog_72_method_18_code (1 : Nat) (Option.some (Jvm.ClassFile.FieldType.object "java/lang/String")), Jvm.Cond.code ({ cls := "com/example/refertario/refertario/store/Episode", name := "discharged", desc := "()Ljava/lang/String;" } : Jvm.MethodName) prog_72_method_19_code (1 : Nat) (Option.some (Jvm.ClassFile.FieldType.object "java/lang/String")), Jvm.Cond.code ({ cls := "com/example/refertario/refertario/store/Episode", name := "status", desc := "()Lcom/example/refertario/refertario/store/Episode$Status;" } : Jvm.MethodName) prog_72_method_20_code (1 : Nat) (Option.some (Jvm.ClassFile.FieldType.object "com/example/refertario/refertario/store/Episode$Status"))]
set_option maxRecDepth 65536 in
theorem codes_eq : words1.filter isCode = codes1 := rfl
theorem w_codes : ∀ c ∈ words1.filter isCode, c.before args0 about1 = true := by
  rw [codes_eq]
  intro c hc
  simp only [codes1, List.mem_cons, List.not_mem_nil, or_false] at hc
  rcases hc with rfl | rfl | rfl | rfl | rfl | rfl | rfl | rfl | rfl | rfl | rfl | rfl | rfl | rfl | rfl | rfl | rfl | rfl | rfl | rfl | rfl | rfl | rfl | rfl
  · exact w_c0
  · exact w_c1
  · exact w_c2
  · exact w_c3
  · exact w_c4
  · exact w_c5
  · exact w_c6
  · exact w_c7
  · exact w_c8
  · exact w_c9
  · exact w_c10
  · exact w_c11
  · exact w_c12
  · exact w_c13
  · exact w_c14
  · exact w_c15
  · exact w_c16
  · exact w_c17
  · exact w_c18
  · exact w_c19
  · exact w_c20
  · exact w_c21
  · exact w_c22
  · exact w_c23
set_option maxRecDepth 65536 in
theorem w_t1 : (words1.take 24).all (fun c => isCode c || c.before args0 about1) = true := by decide +kernel
set_option maxRecDepth 65536 in
theorem w_t2 : ((words1.drop 24).take 24).all (fun c => isCode c || c.before args0 about1) = true := by decide +kernel
set_option maxRecDepth 65536 in
theorem w_t3 : (((words1.drop 24).drop 24).take 24).all (fun c => isCode c || c.before args0 about1) = true := by decide +kernel
set_option maxRecDepth 65536 in
theorem w_t4 : ((((words1.drop 24).drop 24).drop 24).take 24).all (fun c => isCode c || c.before args0 about1) = true := by decide +kernel
set_option maxRecDepth 65536 in
theorem w_t5 : (((((words1.drop 24).drop 24).drop 24).drop 24).take 24).all (fun c => isCode c || c.before args0 about1) = true := by decide +kernel
set_option maxRecDepth 65536 in
theorem w_t6 : (((((words1.drop 24).drop 24).drop 24).drop 24).drop 24).all (fun c => isCode c || c.before args0 about1) = true := by decide +kernel
theorem w_tables : (allAtoms (Jvm.Cond.code x code maxLocals ret :: tables_1)).before args0 about1 = true := by
  rw [allAtoms_all]
  show words1.all (fun c => c.before args0 about1) = true
  refine all_split ?_ w_codes
  rw [← List.take_append_drop 24 words1, List.all_append, w_t1, ← List.take_append_drop 24 (words1.drop 24), List.all_append, w_t2, ← List.take_append_drop 24 ((words1.drop 24).drop 24), List.all_append, w_t3, ← List.take_append_drop 24 (((words1.drop 24).drop 24).drop 24), List.all_append, w_t4, ← List.take_append_drop 24 ((((words1.drop 24).drop 24).drop 24).drop 24), List.all_append, w_t5, w_t6]
  rfl
set_option maxRecDepth 65536 in
theorem w_rest : rest_1_c.before args0 about1 = true := by decide +kernel
set_option maxRecDepth 65536 in
theorem w_case : (Jvm.Cond.and given_1 narrow_1).before args0 about1 = true := by decide +kernel
theorem w_applies : (headSpec (Jvm.Cond.code x code maxLocals ret :: tables_1) room_1).applies x e0.platform about1 = true :=
  (Spec.applies_iff w_frames).mpr ⟨w_running, w_runnable, w_alone, w_named, w_hears, w_ripe, w_room, w_tables⟩
theorem atStart : AtStart classFile x code maxLocals ret World_1 tables_1 room_1 Calls_1 rest_1 Pre_1 launch0 p0 e0 about1 theMethod args0 below0 :=
  ⟨lists_1, trivial, launch0.admits_env _ _ _, launch0.least_env, fairChoices_fair.cas, fairChoices_fair.clock, w_frames, w_args, w_heap, w_applies, trivial, w_rest, w_case⟩
end start1
theorem witness_1 : WitnessClaimed_1 := ⟨start1.p0, start1.e0, start1.about1, start1.theMethod, start1.args0, start1.below0, start1.atStart⟩
end Jvm.Pilot.@@N@@
