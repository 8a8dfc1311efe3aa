import JvmDerived
import JvmDerived.Pilot.@@N@@Statement
import JvmDerived.Pilot.@@N@@Code
set_option linter.unusedVariables false
set_option linter.unusedSimpArgs false
namespace Jvm.Pilot.@@N@@
open Jvm Jvm.ClassFile Sem Op Lib Jvm.Free Jvm.Stand Jvm.LawKit Jvm.RoadKit Bundle Jvm.Pilot.@@N@@.Jvm.D
theorem own_w (i : Nat) {d : Jvm.Cond} (h : tables_1[i]? = some d) : d ∈ tables_1 := List.mem_of_getElem? h
def own_Go (p : Program) (e : Env) (below : List Frame) (A B : State) : Prop := ∀ t, Steps p.tables e below B t → Steps p.tables e below A t
section OwnKit
variable {p : Program} {l : Launch} {e : Env} {R : Room} {s : State} {m : MethodId} {args : Array Value} {below : List Frame} {meth : Method} {c : Code} {T : State} {locs : List Loc} {cells slots : Nat}
theorem retI (X : Stand p l e R s m args below meth c T locs cells slots) (hx : p.tables.exec = Jvm.exec) {pc : Nat} {Ls : Array Slot} {z : Int32} {rest : List Value} (hret : meth.sig.returnType = some .int) (hd : decode c.code pc = .ok (.ireturn, 1)) {fs : List Frame}
    (hl : ∀ (f : JFrame) (acts : List Action), f.method = m → f.locked = none → f.entered = [] → (doReturn e (T.setTop f) acts (some (.int z))).1 = T.setFrames fs) : Steps p.tables e below (T.setTop (mkF m pc Ls (.int z :: rest))) (T.setFrames fs) :=
  retOut X hx hret rfl (Or.inl ⟨rfl, Or.inl rfl, z, rfl⟩) hd hl
theorem own_retR (X : Stand p l e R s m args below meth c T locs cells slots) (hx : p.tables.exec = Jvm.exec) {pc : Nat} {Ls : Array Slot} {w : Value} {t : FieldType} {rest : List Value} (hret : meth.sig.returnType = some t) (ht : t.isReference = true) (hw : w.isRef = true) (hd : decode c.code pc = .ok (.areturn, 1)) {fs : List Frame}
    (hl : ∀ (f : JFrame) (acts : List Action), f.method = m → f.locked = none → f.entered = [] → (doReturn e (T.setTop f) acts (some w)).1 = T.setFrames fs) : Steps p.tables e below (T.setTop (mkF m pc Ls (w :: rest))) (T.setFrames fs) :=
  retOut X hx hret (by cases t <;> cases w <;> simp_all [FieldType.isReference, Value.isRef, narrow]) (Or.inr (Or.inr (Or.inr (Or.inr ⟨rfl, ht, hw⟩)))) hd hl
end OwnKit

theorem d1_0 : decode prog_54_method_6_code 0 = .ok (.aload_n 0, 1) := by decide +kernel
theorem d1_1 : decode prog_54_method_6_code 1 = .ok (.arraylength, 1) := by decide +kernel
theorem d1_2 : decode prog_54_method_6_code 2 = .ok (.iconst 3, 1) := by decide +kernel
theorem d1_3 : decode prog_54_method_6_code 3 = .ok (.iadd, 1) := by decide +kernel
theorem d1_4 : decode prog_54_method_6_code 4 = .ok (.newarray .byte, 2) := by decide +kernel
theorem d1_6 : decode prog_54_method_6_code 6 = .ok (.astore_n 1, 1) := by decide +kernel
theorem d1_7 : decode prog_54_method_6_code 7 = .ok (.aload_n 1, 1) := by decide +kernel
theorem d1_8 : decode prog_54_method_6_code 8 = .ok (.iconst 0, 1) := by decide +kernel
theorem d1_9 : decode prog_54_method_6_code 9 = .ok (.bipush 11, 2) := by decide +kernel
theorem d1_11 : decode prog_54_method_6_code 11 = .ok (.bastore, 1) := by decide +kernel
theorem d1_12 : decode prog_54_method_6_code 12 = .ok (.aload_n 0, 1) := by decide +kernel
theorem d1_13 : decode prog_54_method_6_code 13 = .ok (.iconst 0, 1) := by decide +kernel
theorem d1_14 : decode prog_54_method_6_code 14 = .ok (.aload_n 1, 1) := by decide +kernel
theorem d1_15 : decode prog_54_method_6_code 15 = .ok (.iconst 1, 1) := by decide +kernel
theorem d1_16 : decode prog_54_method_6_code 16 = .ok (.aload_n 0, 1) := by decide +kernel
theorem d1_17 : decode prog_54_method_6_code 17 = .ok (.arraylength, 1) := by decide +kernel
theorem d1_18 : decode prog_54_method_6_code 18 = .ok (.invokestatic 197, 3) := by decide +kernel
theorem d1_21 : decode prog_54_method_6_code 21 = .ok (.aload_n 1, 1) := by decide +kernel
theorem d1_22 : decode prog_54_method_6_code 22 = .ok (.aload_n 1, 1) := by decide +kernel
theorem d1_23 : decode prog_54_method_6_code 23 = .ok (.arraylength, 1) := by decide +kernel
theorem d1_24 : decode prog_54_method_6_code 24 = .ok (.iconst 2, 1) := by decide +kernel
theorem d1_25 : decode prog_54_method_6_code 25 = .ok (.isub, 1) := by decide +kernel
theorem d1_26 : decode prog_54_method_6_code 26 = .ok (.bipush 28, 2) := by decide +kernel
theorem d1_28 : decode prog_54_method_6_code 28 = .ok (.bastore, 1) := by decide +kernel
theorem d1_29 : decode prog_54_method_6_code 29 = .ok (.aload_n 1, 1) := by decide +kernel
theorem d1_30 : decode prog_54_method_6_code 30 = .ok (.aload_n 1, 1) := by decide +kernel
theorem d1_31 : decode prog_54_method_6_code 31 = .ok (.arraylength, 1) := by decide +kernel
theorem d1_32 : decode prog_54_method_6_code 32 = .ok (.iconst 1, 1) := by decide +kernel
theorem d1_33 : decode prog_54_method_6_code 33 = .ok (.isub, 1) := by decide +kernel
theorem d1_34 : decode prog_54_method_6_code 34 = .ok (.bipush 13, 2) := by decide +kernel
theorem d1_36 : decode prog_54_method_6_code 36 = .ok (.bastore, 1) := by decide +kernel
theorem d1_37 : decode prog_54_method_6_code 37 = .ok (.aload_n 1, 1) := by decide +kernel
theorem d1_38 : decode prog_54_method_6_code 38 = .ok (.areturn, 1) := by decide +kernel
theorem pn_1 : plainName "com/example/refertario/refertario/hl7/MllpServer" = true := by first | (simp [plainName, overriddenIn]; done) | decide +kernel
theorem ef_1n0 (m : MethodId) (x0 : Addr) : entryFrame m #[(.ref x0)] 2 = mkF m 0 #[.val (.ref x0), .unset] [] := by first | (simp [entryFrame, mkF, argsToLocals, Value.category]; done) | rfl
def Q1n0 (Z : State) (a1 : Addr) (k : ClassId) (h0 : Heap) (n0 : Nat) (v : Option Value) (h : Heap) (L : List Loc) : Prop := ∃ b : Addr, ∃ kb : ClassId, v = (some (.ref b)) ∧ Fr n0 L ∧ Keep h0 h [] ∧ h0.size ≤ b ∧ Arv Z h b kb .byte (3 : Int32) [(.int (11 : Int32)), (.int (28 : Int32)), (.int (13 : Int32))] (.int (0 : Int32))
set_option maxRecDepth 65536 in
set_option maxHeartbeats 40000000 in
theorem rm1n0 (l : Launch) (Z : State) (a0 : Array Value) (hw : ∀ d ∈ tables_1, d.before a0 Z = true) (ws : List Jvm.Cond) (a1 : Addr) (k : ClassId) (h0 : Heap) (n0 : Nat) (Z0 : n0 ≤ h0.size) (V1 : Arv Z h0 a1 k .byte (0 : Int32) [] (.int (0 : Int32))) :
    MetFree l (⟨"com/example/refertario/refertario/hl7/MllpServer", "frame", "([B)[B"⟩ : MethodName) (head1 (Jvm.Cond.code (⟨"com/example/refertario/refertario/hl7/MllpServer", "frame", "([B)[B"⟩ : MethodName) prog_54_method_6_code 2 (some (.array .byte)) :: ws) ({ frames := 1, cells := 1, slots := 3, locals := 18 } : Room)) (fun a U => a = #[(.ref a1)] ∧ Z.Warmed39 U.vm ∧ U.heap = h0) (fun _ _ _ _ _ => True) (fun _ U o U' => ∃ v L, o = .returned v ∧ Q1n0 Z a1 k h0 n0 v U'.heap L ∧ FrameEnd U o U' L ({ frames := 1, cells := 1, slots := 3, locals := 18 } : Room).cells ({ frames := 1, cells := 1, slots := 3, locals := 18 } : Room).slots) := by
  refine MetFree.of_bodySF (plainFor_of_name pn_1) hisR ?_
  intro p e s m args below meth c s₁ Bd hml0 hP hK
  obtain ⟨rfl, hZ, hh⟩ := hP
  have hx := Bd.exec
  have hby := Bd.bytes
  have hml : c.maxLocals = 2 := hml0
  have hown0 := findClass_of_methodNamed Bd.named
  have hown : s.vm.findClass "com/example/refertario/refertario/hl7/MllpServer" = some m.cls := hown0
  have hnm := (name_of_methodNamed Bd.named Bd.method).1
  have X0 : Stand p l e ({ frames := 1, cells := 1, slots := 3, locals := 18 } : Room) s m #[(.ref a1)] below meth c s₁ [] 0 0 := Stand.of_body Bd
  have e0 : s₁.heap = h0 := by rw [← hh, Bd.state]; rfl
  have N0 := Fr.nil n0
  obtain ⟨S0, hS0⟩ : ∃ z, z = s₁.setTop (entryFrame m #[(.ref a1)] 2) := ⟨_, rfl⟩
  have pre0 : own_Go p e below S0 (s₁.setTop (mkF m 0 #[.val (.ref a1), .unset] [])) := fun t k => by rw [hS0]; exact castTop (ef_1n0 m a1) k
  have fin : ∀ t, Steps p.tables e below S0 t → Steps p.tables e below (s₁.setTop (entryFrame m #[(.ref a1)] 2)) t := fun t k => by rw [hS0] at k; exact k
  have kc0 : Keep h0 h0 [] := Keep.refl _ _
  have pre1 : own_Go p e below S0 (s₁.setTop (mkF m 1 #[.val (.ref a1), .unset] [(.ref a1)])) := by
    intro t kt
    refine pre0 t ?_
    refine XS.aloadN X0.here hx rfl (hb hby d1_0) rfl rfl ?_
    show Steps p.tables e below (s₁.setTop (mkF m 1 #[.val (.ref a1), .unset] [(.ref a1)])) _
    exact kt
  obtain ⟨cl2, Ar2, -, Sz2, Ng2, -, -⟩ := id V1
  have pre3 : own_Go p e below S0 (s₁.setTop (mkF m 4 #[.val (.ref a1), .unset] [(.int (3 : Int32))])) := by
    intro t kt
    refine pre1 t ?_
    refine X0.arraylength hx (by rw [e0]; exact Ar2.1) (State.isArrayOf_alike hZ.alike Ar2.2.1) (g := (mkF m 1 #[.val (.ref a1), .unset] [(.ref a1)])) rfl rfl (hb hby d1_1) _ ?_
    rw [len_of Sz2 Ng2]
    show Steps p.tables e below (s₁.setTop (mkF m 2 #[.val (.ref a1), .unset] [(.int (0 : Int32))])) _
    refine XS.iconst X0.here hx rfl (hb hby d1_2) ?_
    show Steps p.tables e below (s₁.setTop (mkF m 3 #[.val (.ref a1), .unset] [(.int (3 : Int32)), (.int (0 : Int32))])) _
    refine XS.iadd X0.here hx rfl (hb hby d1_3) rfl ?_
    show Steps p.tables e below (s₁.setTop (mkF m 4 #[.val (.ref a1), .unset] [(.int (3 : Int32))])) _
    exact kt
  obtain ⟨T4, h4, k4, X4, e4, E4, A4, st4⟩ := newP X0 hx hZ (hw _ (own_w 0 rfl)) e0 (g := (mkF m 4 #[.val (.ref a1), .unset] [(.int (3 : Int32))])) rfl (hb hby d1_4) rfl (by decide) (cap := 3) (by decide) (by decide) (by decide) (by decide)
  obtain ⟨b4, g4⟩ : ∃ z, z = h0.size := ⟨_, rfl⟩
  rw [← g4] at A4 st4
  have ne5 : a1 ≠ b4 := Nat.ne_of_lt (Nat.lt_of_lt_of_le V1.lt (Nat.le_of_eq g4.symm))
  have ge6 : n0 ≤ b4 := Nat.le_trans Z0 (Nat.le_of_eq g4.symm)
  have sz7 : h0.size ≤ b4 := Nat.le_trans kc0.1 (Nat.le_of_eq g4.symm)
  have zs8 : n0 ≤ h4.size := Nat.le_trans Z0 E4.1
  have kc9 : Keep h0 h4 [] := kc0.ext E4
  have V4 : Arv Z h4 b4 k4 .byte (3 : Int32) [(.int (0 : Int32)), (.int (0 : Int32)), (.int (0 : Int32))] (.int (0 : Int32)) := (Arv.new A4 (by decide)).pad (pad_rep [] (.int (0 : Int32)) 3)
  have pre10 : own_Go p e below S0 (T4.setTop (mkF m 11 #[.val (.ref a1), .val (.ref b4)] [(.int (11 : Int32)), (.int (0 : Int32)), (.ref b4)])) := by
    intro t kt
    refine pre3 t ?_
    refine st4 _ ?_
    show Steps p.tables e below (T4.setTop (mkF m 6 #[.val (.ref a1), .unset] [(.ref b4)])) _
    refine XS.astoreN X4.here hx rfl (hb hby d1_6) rfl rfl (l' := #[.val (.ref a1), .val (.ref b4)]) rfl ?_
    show Steps p.tables e below (T4.setTop (mkF m 7 #[.val (.ref a1), .val (.ref b4)] [])) _
    refine XS.aloadN X4.here hx rfl (hb hby d1_7) rfl rfl ?_
    show Steps p.tables e below (T4.setTop (mkF m 8 #[.val (.ref a1), .val (.ref b4)] [(.ref b4)])) _
    refine XS.iconst X4.here hx rfl (hb hby d1_8) ?_
    show Steps p.tables e below (T4.setTop (mkF m 9 #[.val (.ref a1), .val (.ref b4)] [(.int (0 : Int32)), (.ref b4)])) _
    refine XS.bipush X4.here hx rfl (hb hby d1_9) ?_
    show Steps p.tables e below (T4.setTop (mkF m 11 #[.val (.ref a1), .val (.ref b4)] [(.int (11 : Int32)), (.int (0 : Int32)), (.ref b4)])) _
    exact kt
  obtain ⟨cl11, Ar11, q11, Sz11, Ng11, Hs11, Gt11⟩ := id V4
  have hin11 : ¬ ((0 : Int32) < 0 ∨ cl11.slots.size ≤ ((0 : Int32)).toNatClampNeg) := inb_of Sz11 ⟨by decide, by decide⟩
  obtain ⟨T11, h11, X11, e11, W11, st11⟩ := stB X4 hx hZ e4 Ar11 (j := (0 : Int32)) hin11 (g := (mkF m 11 #[.val (.ref a1), .val (.ref b4)] [(.int (11 : Int32)), (.int (0 : Int32)), (.ref b4)])) rfl rfl (hb hby d1_11)
  have N11 := Fr.snoc X11 N0 ge6
  have zs12 : n0 ≤ h11.size := Nat.le_trans zs8 (Keep.of_wr W11).1
  have kc13 : Keep h0 h11 [] := kc9.wr W11 (Or.inr sz7)
  have V11 : Arv Z h11 b4 k4 .byte (3 : Int32) [(.int (11 : Int32)), (.int (0 : Int32)), (.int (0 : Int32))] (.int (0 : Int32)) := Arv.set Ar11 q11 Sz11 Ng11 Hs11 Gt11 (fits_nar_byte _) W11 0 rfl (Nat.le_of_ble_eq_true rfl)
  have pre14 : own_Go p e below S0 (T11.setTop (mkF m 17 #[.val (.ref a1), .val (.ref b4)] [(.ref a1), (.int (1 : Int32)), (.ref b4), (.int (0 : Int32)), (.ref a1)])) := by
    intro t kt
    refine pre10 t ?_
    refine st11 _ ?_
    show Steps p.tables e below (T11.setTop (mkF m 12 #[.val (.ref a1), .val (.ref b4)] [])) _
    refine XS.aloadN X11.here hx rfl (hb hby d1_12) rfl rfl ?_
    show Steps p.tables e below (T11.setTop (mkF m 13 #[.val (.ref a1), .val (.ref b4)] [(.ref a1)])) _
    refine XS.iconst X11.here hx rfl (hb hby d1_13) ?_
    show Steps p.tables e below (T11.setTop (mkF m 14 #[.val (.ref a1), .val (.ref b4)] [(.int (0 : Int32)), (.ref a1)])) _
    refine XS.aloadN X11.here hx rfl (hb hby d1_14) rfl rfl ?_
    show Steps p.tables e below (T11.setTop (mkF m 15 #[.val (.ref a1), .val (.ref b4)] [(.ref b4), (.int (0 : Int32)), (.ref a1)])) _
    refine XS.iconst X11.here hx rfl (hb hby d1_15) ?_
    show Steps p.tables e below (T11.setTop (mkF m 16 #[.val (.ref a1), .val (.ref b4)] [(.int (1 : Int32)), (.ref b4), (.int (0 : Int32)), (.ref a1)])) _
    refine XS.aloadN X11.here hx rfl (hb hby d1_16) rfl rfl ?_
    show Steps p.tables e below (T11.setTop (mkF m 17 #[.val (.ref a1), .val (.ref b4)] [(.ref a1), (.int (1 : Int32)), (.ref b4), (.int (0 : Int32)), (.ref a1)])) _
    exact kt
  have f15 : Arv Z h11 a1 k .byte (0 : Int32) [] (.int (0 : Int32)) := ((V1.ext E4).other W11 ne5)
  obtain ⟨cl16, Ar16, -, Sz16, Ng16, -, -⟩ := id f15
  have pre17 : own_Go p e below S0 (T11.setTop (mkF m 18 #[.val (.ref a1), .val (.ref b4)] [(.int (0 : Int32)), (.int (1 : Int32)), (.ref b4), (.int (0 : Int32)), (.ref a1)])) := by
    intro t kt
    refine pre14 t ?_
    refine X11.arraylength hx (by rw [e11]; exact Ar16.1) (State.isArrayOf_alike hZ.alike Ar16.2.1) (g := (mkF m 17 #[.val (.ref a1), .val (.ref b4)] [(.ref a1), (.int (1 : Int32)), (.ref b4), (.int (0 : Int32)), (.ref a1)])) rfl rfl (hb hby d1_17) _ ?_
    rw [len_of Sz16 Ng16]
    show Steps p.tables e below (T11.setTop (mkF m 18 #[.val (.ref a1), .val (.ref b4)] [(.int (0 : Int32)), (.int (1 : Int32)), (.ref b4), (.int (0 : Int32)), (.ref a1)])) _
    exact kt
  obtain ⟨T18, h18, L18, X18, e18, N18, K18, V18, st18⟩ := cpA X11 hx hZ hown (hw _ (own_w 5 rfl)) (hw _ (own_w 8 rfl)) (hw _ (own_w 6 rfl)) (hw _ (own_w 7 rfl)) e11 f15 V11 (us := []) (Or.inl ⟨rfl, rfl⟩) (by decide) (by decide) (by decide) (by decide) (by decide) rfl (by decide) N11 ge6 (g := (mkF m 18 #[.val (.ref a1), .val (.ref b4)] [(.int (0 : Int32)), (.int (1 : Int32)), (.ref b4), (.int (0 : Int32)), (.ref a1)])) rfl (by rw [hml]; rfl) rfl (hb hby d1_18) (by decide) (W := 0) (by show 2 * 0 + _ ≤ _; exact Nat.le_of_eq rfl) (by decide)
  have zs19 : n0 ≤ h18.size := Nat.le_trans zs12 K18.1
  have kc20 : Keep h0 h18 [] := kc13.trans K18 (allS (Or.inr sz7) all0)
  have V18q : Arv Z h18 b4 k4 .byte (3 : Int32) [(.int (11 : Int32)), (.int (0 : Int32)), (.int (0 : Int32))] (.int (0 : Int32)) := V18
  have pre21 : own_Go p e below S0 (T18.setTop (mkF m 23 #[.val (.ref a1), .val (.ref b4)] [(.ref b4), (.ref b4)])) := by
    intro t kt
    refine pre17 t ?_
    refine st18 _ ?_
    show Steps p.tables e below (T18.setTop (mkF m 21 #[.val (.ref a1), .val (.ref b4)] [])) _
    refine XS.aloadN X18.here hx rfl (hb hby d1_21) rfl rfl ?_
    show Steps p.tables e below (T18.setTop (mkF m 22 #[.val (.ref a1), .val (.ref b4)] [(.ref b4)])) _
    refine XS.aloadN X18.here hx rfl (hb hby d1_22) rfl rfl ?_
    show Steps p.tables e below (T18.setTop (mkF m 23 #[.val (.ref a1), .val (.ref b4)] [(.ref b4), (.ref b4)])) _
    exact kt
  obtain ⟨cl22, Ar22, -, Sz22, Ng22, -, -⟩ := id V18q
  have pre23 : own_Go p e below S0 (T18.setTop (mkF m 28 #[.val (.ref a1), .val (.ref b4)] [(.int (28 : Int32)), (.int (1 : Int32)), (.ref b4)])) := by
    intro t kt
    refine pre21 t ?_
    refine X18.arraylength hx (by rw [e18]; exact Ar22.1) (State.isArrayOf_alike hZ.alike Ar22.2.1) (g := (mkF m 23 #[.val (.ref a1), .val (.ref b4)] [(.ref b4), (.ref b4)])) rfl rfl (hb hby d1_23) _ ?_
    rw [len_of Sz22 Ng22]
    show Steps p.tables e below (T18.setTop (mkF m 24 #[.val (.ref a1), .val (.ref b4)] [(.int (3 : Int32)), (.ref b4)])) _
    refine XS.iconst X18.here hx rfl (hb hby d1_24) ?_
    show Steps p.tables e below (T18.setTop (mkF m 25 #[.val (.ref a1), .val (.ref b4)] [(.int (2 : Int32)), (.int (3 : Int32)), (.ref b4)])) _
    refine XS.isub X18.here hx rfl (hb hby d1_25) rfl ?_
    show Steps p.tables e below (T18.setTop (mkF m 26 #[.val (.ref a1), .val (.ref b4)] [(.int (1 : Int32)), (.ref b4)])) _
    refine XS.bipush X18.here hx rfl (hb hby d1_26) ?_
    show Steps p.tables e below (T18.setTop (mkF m 28 #[.val (.ref a1), .val (.ref b4)] [(.int (28 : Int32)), (.int (1 : Int32)), (.ref b4)])) _
    exact kt
  obtain ⟨cl24, Ar24, q24, Sz24, Ng24, Hs24, Gt24⟩ := id V18q
  have hin24 : ¬ ((1 : Int32) < 0 ∨ cl24.slots.size ≤ ((1 : Int32)).toNatClampNeg) := inb_of Sz24 ⟨by decide, by decide⟩
  obtain ⟨T24, h24, X24, e24, W24, st24⟩ := stB X18 hx hZ e18 Ar24 (j := (1 : Int32)) hin24 (g := (mkF m 28 #[.val (.ref a1), .val (.ref b4)] [(.int (28 : Int32)), (.int (1 : Int32)), (.ref b4)])) rfl rfl (hb hby d1_28)
  have N24 := Fr.snoc X24 N18 ge6
  have zs25 : n0 ≤ h24.size := Nat.le_trans zs19 (Keep.of_wr W24).1
  have kc26 : Keep h0 h24 [] := kc20.wr W24 (Or.inr sz7)
  have V24 : Arv Z h24 b4 k4 .byte (3 : Int32) [(.int (11 : Int32)), (.int (28 : Int32)), (.int (0 : Int32))] (.int (0 : Int32)) := Arv.set Ar24 q24 Sz24 Ng24 Hs24 Gt24 (fits_nar_byte _) W24 1 rfl (Nat.le_of_ble_eq_true rfl)
  have pre27 : own_Go p e below S0 (T24.setTop (mkF m 31 #[.val (.ref a1), .val (.ref b4)] [(.ref b4), (.ref b4)])) := by
    intro t kt
    refine pre23 t ?_
    refine st24 _ ?_
    show Steps p.tables e below (T24.setTop (mkF m 29 #[.val (.ref a1), .val (.ref b4)] [])) _
    refine XS.aloadN X24.here hx rfl (hb hby d1_29) rfl rfl ?_
    show Steps p.tables e below (T24.setTop (mkF m 30 #[.val (.ref a1), .val (.ref b4)] [(.ref b4)])) _
    refine XS.aloadN X24.here hx rfl (hb hby d1_30) rfl rfl ?_
    show Steps p.tables e below (T24.setTop (mkF m 31 #[.val (.ref a1), .val (.ref b4)] [(.ref b4), (.ref b4)])) _
    exact kt
  obtain ⟨cl28, Ar28, -, Sz28, Ng28, -, -⟩ := id V24
  have pre29 : own_Go p e below S0 (T24.setTop (mkF m 36 #[.val (.ref a1), .val (.ref b4)] [(.int (13 : Int32)), (.int (2 : Int32)), (.ref b4)])) := by
    intro t kt
    refine pre27 t ?_
    refine X24.arraylength hx (by rw [e24]; exact Ar28.1) (State.isArrayOf_alike hZ.alike Ar28.2.1) (g := (mkF m 31 #[.val (.ref a1), .val (.ref b4)] [(.ref b4), (.ref b4)])) rfl rfl (hb hby d1_31) _ ?_
    rw [len_of Sz28 Ng28]
    show Steps p.tables e below (T24.setTop (mkF m 32 #[.val (.ref a1), .val (.ref b4)] [(.int (3 : Int32)), (.ref b4)])) _
    refine XS.iconst X24.here hx rfl (hb hby d1_32) ?_
    show Steps p.tables e below (T24.setTop (mkF m 33 #[.val (.ref a1), .val (.ref b4)] [(.int (1 : Int32)), (.int (3 : Int32)), (.ref b4)])) _
    refine XS.isub X24.here hx rfl (hb hby d1_33) rfl ?_
    show Steps p.tables e below (T24.setTop (mkF m 34 #[.val (.ref a1), .val (.ref b4)] [(.int (2 : Int32)), (.ref b4)])) _
    refine XS.bipush X24.here hx rfl (hb hby d1_34) ?_
    show Steps p.tables e below (T24.setTop (mkF m 36 #[.val (.ref a1), .val (.ref b4)] [(.int (13 : Int32)), (.int (2 : Int32)), (.ref b4)])) _
    exact kt
  obtain ⟨cl30, Ar30, q30, Sz30, Ng30, Hs30, Gt30⟩ := id V24
  have hin30 : ¬ ((2 : Int32) < 0 ∨ cl30.slots.size ≤ ((2 : Int32)).toNatClampNeg) := inb_of Sz30 ⟨by decide, by decide⟩
  obtain ⟨T30, h30, X30, e30, W30, st30⟩ := stB X24 hx hZ e24 Ar30 (j := (2 : Int32)) hin30 (g := (mkF m 36 #[.val (.ref a1), .val (.ref b4)] [(.int (13 : Int32)), (.int (2 : Int32)), (.ref b4)])) rfl rfl (hb hby d1_36)
  have N30 := Fr.snoc X30 N24 ge6
  have zs31 : n0 ≤ h30.size := Nat.le_trans zs25 (Keep.of_wr W30).1
  have kc32 : Keep h0 h30 [] := kc26.wr W30 (Or.inr sz7)
  have V30 : Arv Z h30 b4 k4 .byte (3 : Int32) [(.int (11 : Int32)), (.int (28 : Int32)), (.int (13 : Int32))] (.int (0 : Int32)) := Arv.set Ar30 q30 Sz30 Ng30 Hs30 Gt30 (fits_nar_byte _) W30 2 rfl (Nat.le_of_ble_eq_true rfl)
  have pre33 : own_Go p e below S0 (T30.setTop (mkF m 38 #[.val (.ref a1), .val (.ref b4)] [(.ref b4)])) := by
    intro t kt
    refine pre29 t ?_
    refine st30 _ ?_
    show Steps p.tables e below (T30.setTop (mkF m 37 #[.val (.ref a1), .val (.ref b4)] [])) _
    refine XS.aloadN X30.here hx rfl (hb hby d1_37) rfl rfl ?_
    show Steps p.tables e below (T30.setTop (mkF m 38 #[.val (.ref a1), .val (.ref b4)] [(.ref b4)])) _
    exact kt
  obtain ⟨fs, hr, hrun, hended, hW, hsame⟩ := X30.leave (v := some (.ref b4)) (fun h => by rw [Bd.returns] at h; cases h)
  refine ⟨_, _, fin _ (pre33 _ ?_), hrun, hended, _, _, rfl, ?_, ⟨_, rfl⟩, hW, hsame.mono (by decide) (by decide)⟩
  · jvm_step X30.here [X30.here.top, hx, (hb hby d1_38), X30.method', Bd.returns, Value.isRef, FieldType.isReference]
    first | (intro acts; rw [hr _ acts rfl rfl rfl]) | rw [hr _ _ rfl rfl rfl]
    exact Steps.refl _
  · show Q1n0 Z a1 k h0 n0 _ T30.heap _
    rw [e30]
    exact ⟨b4, k4, rfl, N30, kc32, sz7, V30⟩

theorem ef_1n1 (m : MethodId) (x0 : Addr) : entryFrame m #[(.ref x0)] 2 = mkF m 0 #[.val (.ref x0), .unset] [] := by first | (simp [entryFrame, mkF, argsToLocals, Value.category]; done) | rfl
def Q1n1 (Z : State) (a1 : Addr) (k : ClassId) (u0 : Value) (h0 : Heap) (n0 : Nat) (v : Option Value) (h : Heap) (L : List Loc) : Prop := ∃ b : Addr, ∃ kb : ClassId, v = (some (.ref b)) ∧ Fr n0 L ∧ Keep h0 h [] ∧ h0.size ≤ b ∧ Arv Z h b kb .byte (4 : Int32) [(.int (11 : Int32)), u0, (.int (28 : Int32)), (.int (13 : Int32))] (.int (0 : Int32))
set_option maxRecDepth 65536 in
set_option maxHeartbeats 40000000 in
theorem rm1n1 (l : Launch) (Z : State) (a0 : Array Value) (hw : ∀ d ∈ tables_1, d.before a0 Z = true) (ws : List Jvm.Cond) (a1 : Addr) (k : ClassId) (u0 : Value) (h0 : Heap) (n0 : Nat) (Z0 : n0 ≤ h0.size) (V1 : Arv Z h0 a1 k .byte (1 : Int32) [u0] (.int (0 : Int32))) :
    MetFree l (⟨"com/example/refertario/refertario/hl7/MllpServer", "frame", "([B)[B"⟩ : MethodName) (head1 (Jvm.Cond.code (⟨"com/example/refertario/refertario/hl7/MllpServer", "frame", "([B)[B"⟩ : MethodName) prog_54_method_6_code 2 (some (.array .byte)) :: ws) ({ frames := 1, cells := 1, slots := 4, locals := 18 } : Room)) (fun a U => a = #[(.ref a1)] ∧ Z.Warmed39 U.vm ∧ U.heap = h0) (fun _ _ _ _ _ => True) (fun _ U o U' => ∃ v L, o = .returned v ∧ Q1n1 Z a1 k u0 h0 n0 v U'.heap L ∧ FrameEnd U o U' L ({ frames := 1, cells := 1, slots := 4, locals := 18 } : Room).cells ({ frames := 1, cells := 1, slots := 4, locals := 18 } : Room).slots) := by
  refine MetFree.of_bodySF (plainFor_of_name pn_1) hisR ?_
  intro p e s m args below meth c s₁ Bd hml0 hP hK
  obtain ⟨rfl, hZ, hh⟩ := hP
  have hx := Bd.exec
  have hby := Bd.bytes
  have hml : c.maxLocals = 2 := hml0
  have hown0 := findClass_of_methodNamed Bd.named
  have hown : s.vm.findClass "com/example/refertario/refertario/hl7/MllpServer" = some m.cls := hown0
  have hnm := (name_of_methodNamed Bd.named Bd.method).1
  have X0 : Stand p l e ({ frames := 1, cells := 1, slots := 4, locals := 18 } : Room) s m #[(.ref a1)] below meth c s₁ [] 0 0 := Stand.of_body Bd
  have e0 : s₁.heap = h0 := by rw [← hh, Bd.state]; rfl
  have N0 := Fr.nil n0
  obtain ⟨S0, hS0⟩ : ∃ z, z = s₁.setTop (entryFrame m #[(.ref a1)] 2) := ⟨_, rfl⟩
  have pre0 : own_Go p e below S0 (s₁.setTop (mkF m 0 #[.val (.ref a1), .unset] [])) := fun t k => by rw [hS0]; exact castTop (ef_1n1 m a1) k
  have fin : ∀ t, Steps p.tables e below S0 t → Steps p.tables e below (s₁.setTop (entryFrame m #[(.ref a1)] 2)) t := fun t k => by rw [hS0] at k; exact k
  have kc0 : Keep h0 h0 [] := Keep.refl _ _
  have pre1 : own_Go p e below S0 (s₁.setTop (mkF m 1 #[.val (.ref a1), .unset] [(.ref a1)])) := by
    intro t kt
    refine pre0 t ?_
    refine XS.aloadN X0.here hx rfl (hb hby d1_0) rfl rfl ?_
    show Steps p.tables e below (s₁.setTop (mkF m 1 #[.val (.ref a1), .unset] [(.ref a1)])) _
    exact kt
  obtain ⟨cl2, Ar2, -, Sz2, Ng2, -, -⟩ := id V1
  have pre3 : own_Go p e below S0 (s₁.setTop (mkF m 4 #[.val (.ref a1), .unset] [(.int (4 : Int32))])) := by
    intro t kt
    refine pre1 t ?_
    refine X0.arraylength hx (by rw [e0]; exact Ar2.1) (State.isArrayOf_alike hZ.alike Ar2.2.1) (g := (mkF m 1 #[.val (.ref a1), .unset] [(.ref a1)])) rfl rfl (hb hby d1_1) _ ?_
    rw [len_of Sz2 Ng2]
    show Steps p.tables e below (s₁.setTop (mkF m 2 #[.val (.ref a1), .unset] [(.int (1 : Int32))])) _
    refine XS.iconst X0.here hx rfl (hb hby d1_2) ?_
    show Steps p.tables e below (s₁.setTop (mkF m 3 #[.val (.ref a1), .unset] [(.int (3 : Int32)), (.int (1 : Int32))])) _
    refine XS.iadd X0.here hx rfl (hb hby d1_3) rfl ?_
    show Steps p.tables e below (s₁.setTop (mkF m 4 #[.val (.ref a1), .unset] [(.int (4 : Int32))])) _
    exact kt
  obtain ⟨T4, h4, k4, X4, e4, E4, A4, st4⟩ := newP X0 hx hZ (hw _ (own_w 0 rfl)) e0 (g := (mkF m 4 #[.val (.ref a1), .unset] [(.int (4 : Int32))])) rfl (hb hby d1_4) rfl (by decide) (cap := 4) (by decide) (by decide) (by decide) (by decide)
  obtain ⟨b4, g4⟩ : ∃ z, z = h0.size := ⟨_, rfl⟩
  rw [← g4] at A4 st4
  have ne5 : a1 ≠ b4 := Nat.ne_of_lt (Nat.lt_of_lt_of_le V1.lt (Nat.le_of_eq g4.symm))
  have ge6 : n0 ≤ b4 := Nat.le_trans Z0 (Nat.le_of_eq g4.symm)
  have sz7 : h0.size ≤ b4 := Nat.le_trans kc0.1 (Nat.le_of_eq g4.symm)
  have zs8 : n0 ≤ h4.size := Nat.le_trans Z0 E4.1
  have kc9 : Keep h0 h4 [] := kc0.ext E4
  have V4 : Arv Z h4 b4 k4 .byte (4 : Int32) [(.int (0 : Int32)), (.int (0 : Int32)), (.int (0 : Int32)), (.int (0 : Int32))] (.int (0 : Int32)) := (Arv.new A4 (by decide)).pad (pad_rep [] (.int (0 : Int32)) 4)
  have pre10 : own_Go p e below S0 (T4.setTop (mkF m 11 #[.val (.ref a1), .val (.ref b4)] [(.int (11 : Int32)), (.int (0 : Int32)), (.ref b4)])) := by
    intro t kt
    refine pre3 t ?_
    refine st4 _ ?_
    show Steps p.tables e below (T4.setTop (mkF m 6 #[.val (.ref a1), .unset] [(.ref b4)])) _
    refine XS.astoreN X4.here hx rfl (hb hby d1_6) rfl rfl (l' := #[.val (.ref a1), .val (.ref b4)]) rfl ?_
    show Steps p.tables e below (T4.setTop (mkF m 7 #[.val (.ref a1), .val (.ref b4)] [])) _
    refine XS.aloadN X4.here hx rfl (hb hby d1_7) rfl rfl ?_
    show Steps p.tables e below (T4.setTop (mkF m 8 #[.val (.ref a1), .val (.ref b4)] [(.ref b4)])) _
    refine XS.iconst X4.here hx rfl (hb hby d1_8) ?_
    show Steps p.tables e below (T4.setTop (mkF m 9 #[.val (.ref a1), .val (.ref b4)] [(.int (0 : Int32)), (.ref b4)])) _
    refine XS.bipush X4.here hx rfl (hb hby d1_9) ?_
    show Steps p.tables e below (T4.setTop (mkF m 11 #[.val (.ref a1), .val (.ref b4)] [(.int (11 : Int32)), (.int (0 : Int32)), (.ref b4)])) _
    exact kt
  obtain ⟨cl11, Ar11, q11, Sz11, Ng11, Hs11, Gt11⟩ := id V4
  have hin11 : ¬ ((0 : Int32) < 0 ∨ cl11.slots.size ≤ ((0 : Int32)).toNatClampNeg) := inb_of Sz11 ⟨by decide, by decide⟩
  obtain ⟨T11, h11, X11, e11, W11, st11⟩ := stB X4 hx hZ e4 Ar11 (j := (0 : Int32)) hin11 (g := (mkF m 11 #[.val (.ref a1), .val (.ref b4)] [(.int (11 : Int32)), (.int (0 : Int32)), (.ref b4)])) rfl rfl (hb hby d1_11)
  have N11 := Fr.snoc X11 N0 ge6
  have zs12 : n0 ≤ h11.size := Nat.le_trans zs8 (Keep.of_wr W11).1
  have kc13 : Keep h0 h11 [] := kc9.wr W11 (Or.inr sz7)
  have V11 : Arv Z h11 b4 k4 .byte (4 : Int32) [(.int (11 : Int32)), (.int (0 : Int32)), (.int (0 : Int32)), (.int (0 : Int32))] (.int (0 : Int32)) := Arv.set Ar11 q11 Sz11 Ng11 Hs11 Gt11 (fits_nar_byte _) W11 0 rfl (Nat.le_of_ble_eq_true rfl)
  have pre14 : own_Go p e below S0 (T11.setTop (mkF m 17 #[.val (.ref a1), .val (.ref b4)] [(.ref a1), (.int (1 : Int32)), (.ref b4), (.int (0 : Int32)), (.ref a1)])) := by
    intro t kt
    refine pre10 t ?_
    refine st11 _ ?_
    show Steps p.tables e below (T11.setTop (mkF m 12 #[.val (.ref a1), .val (.ref b4)] [])) _
    refine XS.aloadN X11.here hx rfl (hb hby d1_12) rfl rfl ?_
    show Steps p.tables e below (T11.setTop (mkF m 13 #[.val (.ref a1), .val (.ref b4)] [(.ref a1)])) _
    refine XS.iconst X11.here hx rfl (hb hby d1_13) ?_
    show Steps p.tables e below (T11.setTop (mkF m 14 #[.val (.ref a1), .val (.ref b4)] [(.int (0 : Int32)), (.ref a1)])) _
    refine XS.aloadN X11.here hx rfl (hb hby d1_14) rfl rfl ?_
    show Steps p.tables e below (T11.setTop (mkF m 15 #[.val (.ref a1), .val (.ref b4)] [(.ref b4), (.int (0 : Int32)), (.ref a1)])) _
    refine XS.iconst X11.here hx rfl (hb hby d1_15) ?_
    show Steps p.tables e below (T11.setTop (mkF m 16 #[.val (.ref a1), .val (.ref b4)] [(.int (1 : Int32)), (.ref b4), (.int (0 : Int32)), (.ref a1)])) _
    refine XS.aloadN X11.here hx rfl (hb hby d1_16) rfl rfl ?_
    show Steps p.tables e below (T11.setTop (mkF m 17 #[.val (.ref a1), .val (.ref b4)] [(.ref a1), (.int (1 : Int32)), (.ref b4), (.int (0 : Int32)), (.ref a1)])) _
    exact kt
  have f15 : Arv Z h11 a1 k .byte (1 : Int32) [u0] (.int (0 : Int32)) := ((V1.ext E4).other W11 ne5)
  obtain ⟨cl16, Ar16, -, Sz16, Ng16, -, -⟩ := id f15
  have pre17 : own_Go p e below S0 (T11.setTop (mkF m 18 #[.val (.ref a1), .val (.ref b4)] [(.int (1 : Int32)), (.int (1 : Int32)), (.ref b4), (.int (0 : Int32)), (.ref a1)])) := by
    intro t kt
    refine pre14 t ?_
    refine X11.arraylength hx (by rw [e11]; exact Ar16.1) (State.isArrayOf_alike hZ.alike Ar16.2.1) (g := (mkF m 17 #[.val (.ref a1), .val (.ref b4)] [(.ref a1), (.int (1 : Int32)), (.ref b4), (.int (0 : Int32)), (.ref a1)])) rfl rfl (hb hby d1_17) _ ?_
    rw [len_of Sz16 Ng16]
    show Steps p.tables e below (T11.setTop (mkF m 18 #[.val (.ref a1), .val (.ref b4)] [(.int (1 : Int32)), (.int (1 : Int32)), (.ref b4), (.int (0 : Int32)), (.ref a1)])) _
    exact kt
  obtain ⟨T18, h18, L18, X18, e18, N18, K18, V18, st18⟩ := cpA X11 hx hZ hown (hw _ (own_w 5 rfl)) (hw _ (own_w 8 rfl)) (hw _ (own_w 6 rfl)) (hw _ (own_w 7 rfl)) e11 f15 V11 (us := [u0]) (Or.inl ⟨rfl, rfl⟩) (by decide) (by decide) (by decide) (by decide) (by decide) rfl (by decide) N11 ge6 (g := (mkF m 18 #[.val (.ref a1), .val (.ref b4)] [(.int (1 : Int32)), (.int (1 : Int32)), (.ref b4), (.int (0 : Int32)), (.ref a1)])) rfl (by rw [hml]; rfl) rfl (hb hby d1_18) (by decide) (W := 0) (by show 2 * 0 + _ ≤ _; exact Nat.le_of_eq rfl) (by decide)
  have zs19 : n0 ≤ h18.size := Nat.le_trans zs12 K18.1
  have kc20 : Keep h0 h18 [] := kc13.trans K18 (allS (Or.inr sz7) all0)
  have V18q : Arv Z h18 b4 k4 .byte (4 : Int32) [(.int (11 : Int32)), u0, (.int (0 : Int32)), (.int (0 : Int32))] (.int (0 : Int32)) := V18
  have pre21 : own_Go p e below S0 (T18.setTop (mkF m 23 #[.val (.ref a1), .val (.ref b4)] [(.ref b4), (.ref b4)])) := by
    intro t kt
    refine pre17 t ?_
    refine st18 _ ?_
    show Steps p.tables e below (T18.setTop (mkF m 21 #[.val (.ref a1), .val (.ref b4)] [])) _
    refine XS.aloadN X18.here hx rfl (hb hby d1_21) rfl rfl ?_
    show Steps p.tables e below (T18.setTop (mkF m 22 #[.val (.ref a1), .val (.ref b4)] [(.ref b4)])) _
    refine XS.aloadN X18.here hx rfl (hb hby d1_22) rfl rfl ?_
    show Steps p.tables e below (T18.setTop (mkF m 23 #[.val (.ref a1), .val (.ref b4)] [(.ref b4), (.ref b4)])) _
    exact kt
  obtain ⟨cl22, Ar22, -, Sz22, Ng22, -, -⟩ := id V18q
  have pre23 : own_Go p e below S0 (T18.setTop (mkF m 28 #[.val (.ref a1), .val (.ref b4)] [(.int (28 : Int32)), (.int (2 : Int32)), (.ref b4)])) := by
    intro t kt
    refine pre21 t ?_
    refine X18.arraylength hx (by rw [e18]; exact Ar22.1) (State.isArrayOf_alike hZ.alike Ar22.2.1) (g := (mkF m 23 #[.val (.ref a1), .val (.ref b4)] [(.ref b4), (.ref b4)])) rfl rfl (hb hby d1_23) _ ?_
    rw [len_of Sz22 Ng22]
    show Steps p.tables e below (T18.setTop (mkF m 24 #[.val (.ref a1), .val (.ref b4)] [(.int (4 : Int32)), (.ref b4)])) _
    refine XS.iconst X18.here hx rfl (hb hby d1_24) ?_
    show Steps p.tables e below (T18.setTop (mkF m 25 #[.val (.ref a1), .val (.ref b4)] [(.int (2 : Int32)), (.int (4 : Int32)), (.ref b4)])) _
    refine XS.isub X18.here hx rfl (hb hby d1_25) rfl ?_
    show Steps p.tables e below (T18.setTop (mkF m 26 #[.val (.ref a1), .val (.ref b4)] [(.int (2 : Int32)), (.ref b4)])) _
    refine XS.bipush X18.here hx rfl (hb hby d1_26) ?_
    show Steps p.tables e below (T18.setTop (mkF m 28 #[.val (.ref a1), .val (.ref b4)] [(.int (28 : Int32)), (.int (2 : Int32)), (.ref b4)])) _
    exact kt
  obtain ⟨cl24, Ar24, q24, Sz24, Ng24, Hs24, Gt24⟩ := id V18q
  have hin24 : ¬ ((2 : Int32) < 0 ∨ cl24.slots.size ≤ ((2 : Int32)).toNatClampNeg) := inb_of Sz24 ⟨by decide, by decide⟩
  obtain ⟨T24, h24, X24, e24, W24, st24⟩ := stB X18 hx hZ e18 Ar24 (j := (2 : Int32)) hin24 (g := (mkF m 28 #[.val (.ref a1), .val (.ref b4)] [(.int (28 : Int32)), (.int (2 : Int32)), (.ref b4)])) rfl rfl (hb hby d1_28)
  have N24 := Fr.snoc X24 N18 ge6
  have zs25 : n0 ≤ h24.size := Nat.le_trans zs19 (Keep.of_wr W24).1
  have kc26 : Keep h0 h24 [] := kc20.wr W24 (Or.inr sz7)
  have V24 : Arv Z h24 b4 k4 .byte (4 : Int32) [(.int (11 : Int32)), u0, (.int (28 : Int32)), (.int (0 : Int32))] (.int (0 : Int32)) := Arv.set Ar24 q24 Sz24 Ng24 Hs24 Gt24 (fits_nar_byte _) W24 2 rfl (Nat.le_of_ble_eq_true rfl)
  have pre27 : own_Go p e below S0 (T24.setTop (mkF m 31 #[.val (.ref a1), .val (.ref b4)] [(.ref b4), (.ref b4)])) := by
    intro t kt
    refine pre23 t ?_
    refine st24 _ ?_
    show Steps p.tables e below (T24.setTop (mkF m 29 #[.val (.ref a1), .val (.ref b4)] [])) _
    refine XS.aloadN X24.here hx rfl (hb hby d1_29) rfl rfl ?_
    show Steps p.tables e below (T24.setTop (mkF m 30 #[.val (.ref a1), .val (.ref b4)] [(.ref b4)])) _
    refine XS.aloadN X24.here hx rfl (hb hby d1_30) rfl rfl ?_
    show Steps p.tables e below (T24.setTop (mkF m 31 #[.val (.ref a1), .val (.ref b4)] [(.ref b4), (.ref b4)])) _
    exact kt
  obtain ⟨cl28, Ar28, -, Sz28, Ng28, -, -⟩ := id V24
  have pre29 : own_Go p e below S0 (T24.setTop (mkF m 36 #[.val (.ref a1), .val (.ref b4)] [(.int (13 : Int32)), (.int (3 : Int32)), (.ref b4)])) := by
    intro t kt
    refine pre27 t ?_
    refine X24.arraylength hx (by rw [e24]; exact Ar28.1) (State.isArrayOf_alike hZ.alike Ar28.2.1) (g := (mkF m 31 #[.val (.ref a1), .val (.ref b4)] [(.ref b4), (.ref b4)])) rfl rfl (hb hby d1_31) _ ?_
    rw [len_of Sz28 Ng28]
    show Steps p.tables e below (T24.setTop (mkF m 32 #[.val (.ref a1), .val (.ref b4)] [(.int (4 : Int32)), (.ref b4)])) _
    refine XS.iconst X24.here hx rfl (hb hby d1_32) ?_
    show Steps p.tables e below (T24.setTop (mkF m 33 #[.val (.ref a1), .val (.ref b4)] [(.int (1 : Int32)), (.int (4 : Int32)), (.ref b4)])) _
    refine XS.isub X24.here hx rfl (hb hby d1_33) rfl ?_
    show Steps p.tables e below (T24.setTop (mkF m 34 #[.val (.ref a1), .val (.ref b4)] [(.int (3 : Int32)), (.ref b4)])) _
    refine XS.bipush X24.here hx rfl (hb hby d1_34) ?_
    show Steps p.tables e below (T24.setTop (mkF m 36 #[.val (.ref a1), .val (.ref b4)] [(.int (13 : Int32)), (.int (3 : Int32)), (.ref b4)])) _
    exact kt
  obtain ⟨cl30, Ar30, q30, Sz30, Ng30, Hs30, Gt30⟩ := id V24
  have hin30 : ¬ ((3 : Int32) < 0 ∨ cl30.slots.size ≤ ((3 : Int32)).toNatClampNeg) := inb_of Sz30 ⟨by decide, by decide⟩
  obtain ⟨T30, h30, X30, e30, W30, st30⟩ := stB X24 hx hZ e24 Ar30 (j := (3 : Int32)) hin30 (g := (mkF m 36 #[.val (.ref a1), .val (.ref b4)] [(.int (13 : Int32)), (.int (3 : Int32)), (.ref b4)])) rfl rfl (hb hby d1_36)
  have N30 := Fr.snoc X30 N24 ge6
  have zs31 : n0 ≤ h30.size := Nat.le_trans zs25 (Keep.of_wr W30).1
  have kc32 : Keep h0 h30 [] := kc26.wr W30 (Or.inr sz7)
  have V30 : Arv Z h30 b4 k4 .byte (4 : Int32) [(.int (11 : Int32)), u0, (.int (28 : Int32)), (.int (13 : Int32))] (.int (0 : Int32)) := Arv.set Ar30 q30 Sz30 Ng30 Hs30 Gt30 (fits_nar_byte _) W30 3 rfl (Nat.le_of_ble_eq_true rfl)
  have pre33 : own_Go p e below S0 (T30.setTop (mkF m 38 #[.val (.ref a1), .val (.ref b4)] [(.ref b4)])) := by
    intro t kt
    refine pre29 t ?_
    refine st30 _ ?_
    show Steps p.tables e below (T30.setTop (mkF m 37 #[.val (.ref a1), .val (.ref b4)] [])) _
    refine XS.aloadN X30.here hx rfl (hb hby d1_37) rfl rfl ?_
    show Steps p.tables e below (T30.setTop (mkF m 38 #[.val (.ref a1), .val (.ref b4)] [(.ref b4)])) _
    exact kt
  obtain ⟨fs, hr, hrun, hended, hW, hsame⟩ := X30.leave (v := some (.ref b4)) (fun h => by rw [Bd.returns] at h; cases h)
  refine ⟨_, _, fin _ (pre33 _ ?_), hrun, hended, _, _, rfl, ?_, ⟨_, rfl⟩, hW, hsame.mono (by decide) (by decide)⟩
  · jvm_step X30.here [X30.here.top, hx, (hb hby d1_38), X30.method', Bd.returns, Value.isRef, FieldType.isReference]
    first | (intro acts; rw [hr _ acts rfl rfl rfl]) | rw [hr _ _ rfl rfl rfl]
    exact Steps.refl _
  · show Q1n1 Z a1 k u0 h0 n0 _ T30.heap _
    rw [e30]
    exact ⟨b4, k4, rfl, N30, kc32, sz7, V30⟩

theorem ef_1n2 (m : MethodId) (x0 : Addr) : entryFrame m #[(.ref x0)] 2 = mkF m 0 #[.val (.ref x0), .unset] [] := by first | (simp [entryFrame, mkF, argsToLocals, Value.category]; done) | rfl
def Q1n2 (Z : State) (a1 : Addr) (k : ClassId) (u0 : Value) (u1 : Value) (h0 : Heap) (n0 : Nat) (v : Option Value) (h : Heap) (L : List Loc) : Prop := ∃ b : Addr, ∃ kb : ClassId, v = (some (.ref b)) ∧ Fr n0 L ∧ Keep h0 h [] ∧ h0.size ≤ b ∧ Arv Z h b kb .byte (5 : Int32) [(.int (11 : Int32)), u0, u1, (.int (28 : Int32)), (.int (13 : Int32))] (.int (0 : Int32))
set_option maxRecDepth 65536 in
set_option maxHeartbeats 40000000 in
theorem rm1n2 (l : Launch) (Z : State) (a0 : Array Value) (hw : ∀ d ∈ tables_1, d.before a0 Z = true) (ws : List Jvm.Cond) (a1 : Addr) (k : ClassId) (u0 : Value) (u1 : Value) (h0 : Heap) (n0 : Nat) (Z0 : n0 ≤ h0.size) (V1 : Arv Z h0 a1 k .byte (2 : Int32) [u0, u1] (.int (0 : Int32))) :
    MetFree l (⟨"com/example/refertario/refertario/hl7/MllpServer", "frame", "([B)[B"⟩ : MethodName) (head1 (Jvm.Cond.code (⟨"com/example/refertario/refertario/hl7/MllpServer", "frame", "([B)[B"⟩ : MethodName) prog_54_method_6_code 2 (some (.array .byte)) :: ws) ({ frames := 1, cells := 1, slots := 5, locals := 18 } : Room)) (fun a U => a = #[(.ref a1)] ∧ Z.Warmed39 U.vm ∧ U.heap = h0) (fun _ _ _ _ _ => True) (fun _ U o U' => ∃ v L, o = .returned v ∧ Q1n2 Z a1 k u0 u1 h0 n0 v U'.heap L ∧ FrameEnd U o U' L ({ frames := 1, cells := 1, slots := 5, locals := 18 } : Room).cells ({ frames := 1, cells := 1, slots := 5, locals := 18 } : Room).slots) := by
  refine MetFree.of_bodySF (plainFor_of_name pn_1) hisR ?_
  intro p e s m args below meth c s₁ Bd hml0 hP hK
  obtain ⟨rfl, hZ, hh⟩ := hP
  have hx := Bd.exec
  have hby := Bd.bytes
  have hml : c.maxLocals = 2 := hml0
  have hown0 := findClass_of_methodNamed Bd.named
  have hown : s.vm.findClass "com/example/refertario/refertario/hl7/MllpServer" = some m.cls := hown0
  have hnm := (name_of_methodNamed Bd.named Bd.method).1
  have X0 : Stand p l e ({ frames := 1, cells := 1, slots := 5, locals := 18 } : Room) s m #[(.ref a1)] below meth c s₁ [] 0 0 := Stand.of_body Bd
  have e0 : s₁.heap = h0 := by rw [← hh, Bd.state]; rfl
  have N0 := Fr.nil n0
  obtain ⟨S0, hS0⟩ : ∃ z, z = s₁.setTop (entryFrame m #[(.ref a1)] 2) := ⟨_, rfl⟩
  have pre0 : own_Go p e below S0 (s₁.setTop (mkF m 0 #[.val (.ref a1), .unset] [])) := fun t k => by rw [hS0]; exact castTop (ef_1n2 m a1) k
  have fin : ∀ t, Steps p.tables e below S0 t → Steps p.tables e below (s₁.setTop (entryFrame m #[(.ref a1)] 2)) t := fun t k => by rw [hS0] at k; exact k
  have kc0 : Keep h0 h0 [] := Keep.refl _ _
  have pre1 : own_Go p e below S0 (s₁.setTop (mkF m 1 #[.val (.ref a1), .unset] [(.ref a1)])) := by
    intro t kt
    refine pre0 t ?_
    refine XS.aloadN X0.here hx rfl (hb hby d1_0) rfl rfl ?_
    show Steps p.tables e below (s₁.setTop (mkF m 1 #[.val (.ref a1), .unset] [(.ref a1)])) _
    exact kt
  obtain ⟨cl2, Ar2, -, Sz2, Ng2, -, -⟩ := id V1
  have pre3 : own_Go p e below S0 (s₁.setTop (mkF m 4 #[.val (.ref a1), .unset] [(.int (5 : Int32))])) := by
    intro t kt
    refine pre1 t ?_
    refine X0.arraylength hx (by rw [e0]; exact Ar2.1) (State.isArrayOf_alike hZ.alike Ar2.2.1) (g := (mkF m 1 #[.val (.ref a1), .unset] [(.ref a1)])) rfl rfl (hb hby d1_1) _ ?_
    rw [len_of Sz2 Ng2]
    show Steps p.tables e below (s₁.setTop (mkF m 2 #[.val (.ref a1), .unset] [(.int (2 : Int32))])) _
    refine XS.iconst X0.here hx rfl (hb hby d1_2) ?_
    show Steps p.tables e below (s₁.setTop (mkF m 3 #[.val (.ref a1), .unset] [(.int (3 : Int32)), (.int (2 : Int32))])) _
    refine XS.iadd X0.here hx rfl (hb hby d1_3) rfl ?_
    show Steps p.tables e below (s₁.setTop (mkF m 4 #[.val (.ref a1), .unset] [(.int (5 : Int32))])) _
    exact kt
  obtain ⟨T4, h4, k4, X4, e4, E4, A4, st4⟩ := newP X0 hx hZ (hw _ (own_w 0 rfl)) e0 (g := (mkF m 4 #[.val (.ref a1), .unset] [(.int (5 : Int32))])) rfl (hb hby d1_4) rfl (by decide) (cap := 5) (by decide) (by decide) (by decide) (by decide)
  obtain ⟨b4, g4⟩ : ∃ z, z = h0.size := ⟨_, rfl⟩
  rw [← g4] at A4 st4
  have ne5 : a1 ≠ b4 := Nat.ne_of_lt (Nat.lt_of_lt_of_le V1.lt (Nat.le_of_eq g4.symm))
  have ge6 : n0 ≤ b4 := Nat.le_trans Z0 (Nat.le_of_eq g4.symm)
  have sz7 : h0.size ≤ b4 := Nat.le_trans kc0.1 (Nat.le_of_eq g4.symm)
  have zs8 : n0 ≤ h4.size := Nat.le_trans Z0 E4.1
  have kc9 : Keep h0 h4 [] := kc0.ext E4
  have V4 : Arv Z h4 b4 k4 .byte (5 : Int32) [(.int (0 : Int32)), (.int (0 : Int32)), (.int (0 : Int32)), (.int (0 : Int32)), (.int (0 : Int32))] (.int (0 : Int32)) := (Arv.new A4 (by decide)).pad (pad_rep [] (.int (0 : Int32)) 5)
  have pre10 : own_Go p e below S0 (T4.setTop (mkF m 11 #[.val (.ref a1), .val (.ref b4)] [(.int (11 : Int32)), (.int (0 : Int32)), (.ref b4)])) := by
    intro t kt
    refine pre3 t ?_
    refine st4 _ ?_
    show Steps p.tables e below (T4.setTop (mkF m 6 #[.val (.ref a1), .unset] [(.ref b4)])) _
    refine XS.astoreN X4.here hx rfl (hb hby d1_6) rfl rfl (l' := #[.val (.ref a1), .val (.ref b4)]) rfl ?_
    show Steps p.tables e below (T4.setTop (mkF m 7 #[.val (.ref a1), .val (.ref b4)] [])) _
    refine XS.aloadN X4.here hx rfl (hb hby d1_7) rfl rfl ?_
    show Steps p.tables e below (T4.setTop (mkF m 8 #[.val (.ref a1), .val (.ref b4)] [(.ref b4)])) _
    refine XS.iconst X4.here hx rfl (hb hby d1_8) ?_
    show Steps p.tables e below (T4.setTop (mkF m 9 #[.val (.ref a1), .val (.ref b4)] [(.int (0 : Int32)), (.ref b4)])) _
    refine XS.bipush X4.here hx rfl (hb hby d1_9) ?_
    show Steps p.tables e below (T4.setTop (mkF m 11 #[.val (.ref a1), .val (.ref b4)] [(.int (11 : Int32)), (.int (0 : Int32)), (.ref b4)])) _
    exact kt
  obtain ⟨cl11, Ar11, q11, Sz11, Ng11, Hs11, Gt11⟩ := id V4
  have hin11 : ¬ ((0 : Int32) < 0 ∨ cl11.slots.size ≤ ((0 : Int32)).toNatClampNeg) := inb_of Sz11 ⟨by decide, by decide⟩
  obtain ⟨T11, h11, X11, e11, W11, st11⟩ := stB X4 hx hZ e4 Ar11 (j := (0 : Int32)) hin11 (g := (mkF m 11 #[.val (.ref a1), .val (.ref b4)] [(.int (11 : Int32)), (.int (0 : Int32)), (.ref b4)])) rfl rfl (hb hby d1_11)
  have N11 := Fr.snoc X11 N0 ge6
  have zs12 : n0 ≤ h11.size := Nat.le_trans zs8 (Keep.of_wr W11).1
  have kc13 : Keep h0 h11 [] := kc9.wr W11 (Or.inr sz7)
  have V11 : Arv Z h11 b4 k4 .byte (5 : Int32) [(.int (11 : Int32)), (.int (0 : Int32)), (.int (0 : Int32)), (.int (0 : Int32)), (.int (0 : Int32))] (.int (0 : Int32)) := Arv.set Ar11 q11 Sz11 Ng11 Hs11 Gt11 (fits_nar_byte _) W11 0 rfl (Nat.le_of_ble_eq_true rfl)
  have pre14 : own_Go p e below S0 (T11.setTop (mkF m 17 #[.val (.ref a1), .val (.ref b4)] [(.ref a1), (.int (1 : Int32)), (.ref b4), (.int (0 : Int32)), (.ref a1)])) := by
    intro t kt
    refine pre10 t ?_
    refine st11 _ ?_
    show Steps p.tables e below (T11.setTop (mkF m 12 #[.val (.ref a1), .val (.ref b4)] [])) _
    refine XS.aloadN X11.here hx rfl (hb hby d1_12) rfl rfl ?_
    show Steps p.tables e below (T11.setTop (mkF m 13 #[.val (.ref a1), .val (.ref b4)] [(.ref a1)])) _
    refine XS.iconst X11.here hx rfl (hb hby d1_13) ?_
    show Steps p.tables e below (T11.setTop (mkF m 14 #[.val (.ref a1), .val (.ref b4)] [(.int (0 : Int32)), (.ref a1)])) _
    refine XS.aloadN X11.here hx rfl (hb hby d1_14) rfl rfl ?_
    show Steps p.tables e below (T11.setTop (mkF m 15 #[.val (.ref a1), .val (.ref b4)] [(.ref b4), (.int (0 : Int32)), (.ref a1)])) _
    refine XS.iconst X11.here hx rfl (hb hby d1_15) ?_
    show Steps p.tables e below (T11.setTop (mkF m 16 #[.val (.ref a1), .val (.ref b4)] [(.int (1 : Int32)), (.ref b4), (.int (0 : Int32)), (.ref a1)])) _
    refine XS.aloadN X11.here hx rfl (hb hby d1_16) rfl rfl ?_
    show Steps p.tables e below (T11.setTop (mkF m 17 #[.val (.ref a1), .val (.ref b4)] [(.ref a1), (.int (1 : Int32)), (.ref b4), (.int (0 : Int32)), (.ref a1)])) _
    exact kt
  have f15 : Arv Z h11 a1 k .byte (2 : Int32) [u0, u1] (.int (0 : Int32)) := ((V1.ext E4).other W11 ne5)
  obtain ⟨cl16, Ar16, -, Sz16, Ng16, -, -⟩ := id f15
  have pre17 : own_Go p e below S0 (T11.setTop (mkF m 18 #[.val (.ref a1), .val (.ref b4)] [(.int (2 : Int32)), (.int (1 : Int32)), (.ref b4), (.int (0 : Int32)), (.ref a1)])) := by
    intro t kt
    refine pre14 t ?_
    refine X11.arraylength hx (by rw [e11]; exact Ar16.1) (State.isArrayOf_alike hZ.alike Ar16.2.1) (g := (mkF m 17 #[.val (.ref a1), .val (.ref b4)] [(.ref a1), (.int (1 : Int32)), (.ref b4), (.int (0 : Int32)), (.ref a1)])) rfl rfl (hb hby d1_17) _ ?_
    rw [len_of Sz16 Ng16]
    show Steps p.tables e below (T11.setTop (mkF m 18 #[.val (.ref a1), .val (.ref b4)] [(.int (2 : Int32)), (.int (1 : Int32)), (.ref b4), (.int (0 : Int32)), (.ref a1)])) _
    exact kt
  obtain ⟨T18, h18, L18, X18, e18, N18, K18, V18, st18⟩ := cpA X11 hx hZ hown (hw _ (own_w 5 rfl)) (hw _ (own_w 8 rfl)) (hw _ (own_w 6 rfl)) (hw _ (own_w 7 rfl)) e11 f15 V11 (us := [u0, u1]) (Or.inl ⟨rfl, rfl⟩) (by decide) (by decide) (by decide) (by decide) (by decide) rfl (by decide) N11 ge6 (g := (mkF m 18 #[.val (.ref a1), .val (.ref b4)] [(.int (2 : Int32)), (.int (1 : Int32)), (.ref b4), (.int (0 : Int32)), (.ref a1)])) rfl (by rw [hml]; rfl) rfl (hb hby d1_18) (by decide) (W := 0) (by show 2 * 0 + _ ≤ _; exact Nat.le_of_eq rfl) (by decide)
  have zs19 : n0 ≤ h18.size := Nat.le_trans zs12 K18.1
  have kc20 : Keep h0 h18 [] := kc13.trans K18 (allS (Or.inr sz7) all0)
  have V18q : Arv Z h18 b4 k4 .byte (5 : Int32) [(.int (11 : Int32)), u0, u1, (.int (0 : Int32)), (.int (0 : Int32))] (.int (0 : Int32)) := V18
  have pre21 : own_Go p e below S0 (T18.setTop (mkF m 23 #[.val (.ref a1), .val (.ref b4)] [(.ref b4), (.ref b4)])) := by
    intro t kt
    refine pre17 t ?_
    refine st18 _ ?_
    show Steps p.tables e below (T18.setTop (mkF m 21 #[.val (.ref a1), .val (.ref b4)] [])) _
    refine XS.aloadN X18.here hx rfl (hb hby d1_21) rfl rfl ?_
    show Steps p.tables e below (T18.setTop (mkF m 22 #[.val (.ref a1), .val (.ref b4)] [(.ref b4)])) _
    refine XS.aloadN X18.here hx rfl (hb hby d1_22) rfl rfl ?_
    show Steps p.tables e below (T18.setTop (mkF m 23 #[.val (.ref a1), .val (.ref b4)] [(.ref b4), (.ref b4)])) _
    exact kt
  obtain ⟨cl22, Ar22, -, Sz22, Ng22, -, -⟩ := id V18q
  have pre23 : own_Go p e below S0 (T18.setTop (mkF m 28 #[.val (.ref a1), .val (.ref b4)] [(.int (28 : Int32)), (.int (3 : Int32)), (.ref b4)])) := by
    intro t kt
    refine pre21 t ?_
    refine X18.arraylength hx (by rw [e18]; exact Ar22.1) (State.isArrayOf_alike hZ.alike Ar22.2.1) (g := (mkF m 23 #[.val (.ref a1), .val (.ref b4)] [(.ref b4), (.ref b4)])) rfl rfl (hb hby d1_23) _ ?_
    rw [len_of Sz22 Ng22]
    show Steps p.tables e below (T18.setTop (mkF m 24 #[.val (.ref a1), .val (.ref b4)] [(.int (5 : Int32)), (.ref b4)])) _
    refine XS.iconst X18.here hx rfl (hb hby d1_24) ?_
    show Steps p.tables e below (T18.setTop (mkF m 25 #[.val (.ref a1), .val (.ref b4)] [(.int (2 : Int32)), (.int (5 : Int32)), (.ref b4)])) _
    refine XS.isub X18.here hx rfl (hb hby d1_25) rfl ?_
    show Steps p.tables e below (T18.setTop (mkF m 26 #[.val (.ref a1), .val (.ref b4)] [(.int (3 : Int32)), (.ref b4)])) _
    refine XS.bipush X18.here hx rfl (hb hby d1_26) ?_
    show Steps p.tables e below (T18.setTop (mkF m 28 #[.val (.ref a1), .val (.ref b4)] [(.int (28 : Int32)), (.int (3 : Int32)), (.ref b4)])) _
    exact kt
  obtain ⟨cl24, Ar24, q24, Sz24, Ng24, Hs24, Gt24⟩ := id V18q
  have hin24 : ¬ ((3 : Int32) < 0 ∨ cl24.slots.size ≤ ((3 : Int32)).toNatClampNeg) := inb_of Sz24 ⟨by decide, by decide⟩
  obtain ⟨T24, h24, X24, e24, W24, st24⟩ := stB X18 hx hZ e18 Ar24 (j := (3 : Int32)) hin24 (g := (mkF m 28 #[.val (.ref a1), .val (.ref b4)] [(.int (28 : Int32)), (.int (3 : Int32)), (.ref b4)])) rfl rfl (hb hby d1_28)
  have N24 := Fr.snoc X24 N18 ge6
  have zs25 : n0 ≤ h24.size := Nat.le_trans zs19 (Keep.of_wr W24).1
  have kc26 : Keep h0 h24 [] := kc20.wr W24 (Or.inr sz7)
  have V24 : Arv Z h24 b4 k4 .byte (5 : Int32) [(.int (11 : Int32)), u0, u1, (.int (28 : Int32)), (.int (0 : Int32))] (.int (0 : Int32)) := Arv.set Ar24 q24 Sz24 Ng24 Hs24 Gt24 (fits_nar_byte _) W24 3 rfl (Nat.le_of_ble_eq_true rfl)
  have pre27 : own_Go p e below S0 (T24.setTop (mkF m 31 #[.val (.ref a1), .val (.ref b4)] [(.ref b4), (.ref b4)])) := by
    intro t kt
    refine pre23 t ?_
    refine st24 _ ?_
    show Steps p.tables e below (T24.setTop (mkF m 29 #[.val (.ref a1), .val (.ref b4)] [])) _
    refine XS.aloadN X24.here hx rfl (hb hby d1_29) rfl rfl ?_
    show Steps p.tables e below (T24.setTop (mkF m 30 #[.val (.ref a1), .val (.ref b4)] [(.ref b4)])) _
    refine XS.aloadN X24.here hx rfl (hb hby d1_30) rfl rfl ?_
    show Steps p.tables e below (T24.setTop (mkF m 31 #[.val (.ref a1), .val (.ref b4)] [(.ref b4), (.ref b4)])) _
    exact kt
  obtain ⟨cl28, Ar28, -, Sz28, Ng28, -, -⟩ := id V24
  have pre29 : own_Go p e below S0 (T24.setTop (mkF m 36 #[.val (.ref a1), .val (.ref b4)] [(.int (13 : Int32)), (.int (4 : Int32)), (.ref b4)])) := by
    intro t kt
    refine pre27 t ?_
    refine X24.arraylength hx (by rw [e24]; exact Ar28.1) (State.isArrayOf_alike hZ.alike Ar28.2.1) (g := (mkF m 31 #[.val (.ref a1), .val (.ref b4)] [(.ref b4), (.ref b4)])) rfl rfl (hb hby d1_31) _ ?_
    rw [len_of Sz28 Ng28]
    show Steps p.tables e below (T24.setTop (mkF m 32 #[.val (.ref a1), .val (.ref b4)] [(.int (5 : Int32)), (.ref b4)])) _
    refine XS.iconst X24.here hx rfl (hb hby d1_32) ?_
    show Steps p.tables e below (T24.setTop (mkF m 33 #[.val (.ref a1), .val (.ref b4)] [(.int (1 : Int32)), (.int (5 : Int32)), (.ref b4)])) _
    refine XS.isub X24.here hx rfl (hb hby d1_33) rfl ?_
    show Steps p.tables e below (T24.setTop (mkF m 34 #[.val (.ref a1), .val (.ref b4)] [(.int (4 : Int32)), (.ref b4)])) _
    refine XS.bipush X24.here hx rfl (hb hby d1_34) ?_
    show Steps p.tables e below (T24.setTop (mkF m 36 #[.val (.ref a1), .val (.ref b4)] [(.int (13 : Int32)), (.int (4 : Int32)), (.ref b4)])) _
    exact kt
  obtain ⟨cl30, Ar30, q30, Sz30, Ng30, Hs30, Gt30⟩ := id V24
  have hin30 : ¬ ((4 : Int32) < 0 ∨ cl30.slots.size ≤ ((4 : Int32)).toNatClampNeg) := inb_of Sz30 ⟨by decide, by decide⟩
  obtain ⟨T30, h30, X30, e30, W30, st30⟩ := stB X24 hx hZ e24 Ar30 (j := (4 : Int32)) hin30 (g := (mkF m 36 #[.val (.ref a1), .val (.ref b4)] [(.int (13 : Int32)), (.int (4 : Int32)), (.ref b4)])) rfl rfl (hb hby d1_36)
  have N30 := Fr.snoc X30 N24 ge6
  have zs31 : n0 ≤ h30.size := Nat.le_trans zs25 (Keep.of_wr W30).1
  have kc32 : Keep h0 h30 [] := kc26.wr W30 (Or.inr sz7)
  have V30 : Arv Z h30 b4 k4 .byte (5 : Int32) [(.int (11 : Int32)), u0, u1, (.int (28 : Int32)), (.int (13 : Int32))] (.int (0 : Int32)) := Arv.set Ar30 q30 Sz30 Ng30 Hs30 Gt30 (fits_nar_byte _) W30 4 rfl (Nat.le_of_ble_eq_true rfl)
  have pre33 : own_Go p e below S0 (T30.setTop (mkF m 38 #[.val (.ref a1), .val (.ref b4)] [(.ref b4)])) := by
    intro t kt
    refine pre29 t ?_
    refine st30 _ ?_
    show Steps p.tables e below (T30.setTop (mkF m 37 #[.val (.ref a1), .val (.ref b4)] [])) _
    refine XS.aloadN X30.here hx rfl (hb hby d1_37) rfl rfl ?_
    show Steps p.tables e below (T30.setTop (mkF m 38 #[.val (.ref a1), .val (.ref b4)] [(.ref b4)])) _
    exact kt
  obtain ⟨fs, hr, hrun, hended, hW, hsame⟩ := X30.leave (v := some (.ref b4)) (fun h => by rw [Bd.returns] at h; cases h)
  refine ⟨_, _, fin _ (pre33 _ ?_), hrun, hended, _, _, rfl, ?_, ⟨_, rfl⟩, hW, hsame.mono (by decide) (by decide)⟩
  · jvm_step X30.here [X30.here.top, hx, (hb hby d1_38), X30.method', Bd.returns, Value.isRef, FieldType.isReference]
    first | (intro acts; rw [hr _ acts rfl rfl rfl]) | rw [hr _ _ rfl rfl rfl]
    exact Steps.refl _
  · show Q1n2 Z a1 k u0 u1 h0 n0 _ T30.heap _
    rw [e30]
    exact ⟨b4, k4, rfl, N30, kc32, sz7, V30⟩

theorem ef_1n3 (m : MethodId) (x0 : Addr) : entryFrame m #[(.ref x0)] 2 = mkF m 0 #[.val (.ref x0), .unset] [] := by first | (simp [entryFrame, mkF, argsToLocals, Value.category]; done) | rfl
def Q1n3 (Z : State) (a1 : Addr) (k : ClassId) (u0 : Value) (u1 : Value) (u2 : Value) (h0 : Heap) (n0 : Nat) (v : Option Value) (h : Heap) (L : List Loc) : Prop := ∃ b : Addr, ∃ kb : ClassId, v = (some (.ref b)) ∧ Fr n0 L ∧ Keep h0 h [] ∧ h0.size ≤ b ∧ Arv Z h b kb .byte (6 : Int32) [(.int (11 : Int32)), u0, u1, u2, (.int (28 : Int32)), (.int (13 : Int32))] (.int (0 : Int32))
set_option maxRecDepth 65536 in
set_option maxHeartbeats 40000000 in
theorem rm1n3 (l : Launch) (Z : State) (a0 : Array Value) (hw : ∀ d ∈ tables_1, d.before a0 Z = true) (ws : List Jvm.Cond) (a1 : Addr) (k : ClassId) (u0 : Value) (u1 : Value) (u2 : Value) (h0 : Heap) (n0 : Nat) (Z0 : n0 ≤ h0.size) (V1 : Arv Z h0 a1 k .byte (3 : Int32) [u0, u1, u2] (.int (0 : Int32))) :
    MetFree l (⟨"com/example/refertario/refertario/hl7/MllpServer", "frame", "([B)[B"⟩ : MethodName) (head1 (Jvm.Cond.code (⟨"com/example/refertario/refertario/hl7/MllpServer", "frame", "([B)[B"⟩ : MethodName) prog_54_method_6_code 2 (some (.array .byte)) :: ws) ({ frames := 1, cells := 1, slots := 6, locals := 18 } : Room)) (fun a U => a = #[(.ref a1)] ∧ Z.Warmed39 U.vm ∧ U.heap = h0) (fun _ _ _ _ _ => True) (fun _ U o U' => ∃ v L, o = .returned v ∧ Q1n3 Z a1 k u0 u1 u2 h0 n0 v U'.heap L ∧ FrameEnd U o U' L ({ frames := 1, cells := 1, slots := 6, locals := 18 } : Room).cells ({ frames := 1, cells := 1, slots := 6, locals := 18 } : Room).slots) := by
  refine MetFree.of_bodySF (plainFor_of_name pn_1) hisR ?_
  intro p e s m args below meth c s₁ Bd hml0 hP hK
  obtain ⟨rfl, hZ, hh⟩ := hP
  have hx := Bd.exec
  have hby := Bd.bytes
  have hml : c.maxLocals = 2 := hml0
  have hown0 := findClass_of_methodNamed Bd.named
  have hown : s.vm.findClass "com/example/refertario/refertario/hl7/MllpServer" = some m.cls := hown0
  have hnm := (name_of_methodNamed Bd.named Bd.method).1
  have X0 : Stand p l e ({ frames := 1, cells := 1, slots := 6, locals := 18 } : Room) s m #[(.ref a1)] below meth c s₁ [] 0 0 := Stand.of_body Bd
  have e0 : s₁.heap = h0 := by rw [← hh, Bd.state]; rfl
  have N0 := Fr.nil n0
  obtain ⟨S0, hS0⟩ : ∃ z, z = s₁.setTop (entryFrame m #[(.ref a1)] 2) := ⟨_, rfl⟩
  have pre0 : own_Go p e below S0 (s₁.setTop (mkF m 0 #[.val (.ref a1), .unset] [])) := fun t k => by rw [hS0]; exact castTop (ef_1n3 m a1) k
  have fin : ∀ t, Steps p.tables e below S0 t → Steps p.tables e below (s₁.setTop (entryFrame m #[(.ref a1)] 2)) t := fun t k => by rw [hS0] at k; exact k
  have kc0 : Keep h0 h0 [] := Keep.refl _ _
  have pre1 : own_Go p e below S0 (s₁.setTop (mkF m 1 #[.val (.ref a1), .unset] [(.ref a1)])) := by
    intro t kt
    refine pre0 t ?_
    refine XS.aloadN X0.here hx rfl (hb hby d1_0) rfl rfl ?_
    show Steps p.tables e below (s₁.setTop (mkF m 1 #[.val (.ref a1), .unset] [(.ref a1)])) _
    exact kt
  obtain ⟨cl2, Ar2, -, Sz2, Ng2, -, -⟩ := id V1
  have pre3 : own_Go p e below S0 (s₁.setTop (mkF m 4 #[.val (.ref a1), .unset] [(.int (6 : Int32))])) := by
    intro t kt
    refine pre1 t ?_
    refine X0.arraylength hx (by rw [e0]; exact Ar2.1) (State.isArrayOf_alike hZ.alike Ar2.2.1) (g := (mkF m 1 #[.val (.ref a1), .unset] [(.ref a1)])) rfl rfl (hb hby d1_1) _ ?_
    rw [len_of Sz2 Ng2]
    show Steps p.tables e below (s₁.setTop (mkF m 2 #[.val (.ref a1), .unset] [(.int (3 : Int32))])) _
    refine XS.iconst X0.here hx rfl (hb hby d1_2) ?_
    show Steps p.tables e below (s₁.setTop (mkF m 3 #[.val (.ref a1), .unset] [(.int (3 : Int32)), (.int (3 : Int32))])) _
    refine XS.iadd X0.here hx rfl (hb hby d1_3) rfl ?_
    show Steps p.tables e below (s₁.setTop (mkF m 4 #[.val (.ref a1), .unset] [(.int (6 : Int32))])) _
    exact kt
  obtain ⟨T4, h4, k4, X4, e4, E4, A4, st4⟩ := newP X0 hx hZ (hw _ (own_w 0 rfl)) e0 (g := (mkF m 4 #[.val (.ref a1), .unset] [(.int (6 : Int32))])) rfl (hb hby d1_4) rfl (by decide) (cap := 6) (by decide) (by decide) (by decide) (by decide)
  obtain ⟨b4, g4⟩ : ∃ z, z = h0.size := ⟨_, rfl⟩
  rw [← g4] at A4 st4
  have ne5 : a1 ≠ b4 := Nat.ne_of_lt (Nat.lt_of_lt_of_le V1.lt (Nat.le_of_eq g4.symm))
  have ge6 : n0 ≤ b4 := Nat.le_trans Z0 (Nat.le_of_eq g4.symm)
  have sz7 : h0.size ≤ b4 := Nat.le_trans kc0.1 (Nat.le_of_eq g4.symm)
  have zs8 : n0 ≤ h4.size := Nat.le_trans Z0 E4.1
  have kc9 : Keep h0 h4 [] := kc0.ext E4
  have V4 : Arv Z h4 b4 k4 .byte (6 : Int32) [(.int (0 : Int32)), (.int (0 : Int32)), (.int (0 : Int32)), (.int (0 : Int32)), (.int (0 : Int32)), (.int (0 : Int32))] (.int (0 : Int32)) := (Arv.new A4 (by decide)).pad (pad_rep [] (.int (0 : Int32)) 6)
  have pre10 : own_Go p e below S0 (T4.setTop (mkF m 11 #[.val (.ref a1), .val (.ref b4)] [(.int (11 : Int32)), (.int (0 : Int32)), (.ref b4)])) := by
    intro t kt
    refine pre3 t ?_
    refine st4 _ ?_
    show Steps p.tables e below (T4.setTop (mkF m 6 #[.val (.ref a1), .unset] [(.ref b4)])) _
    refine XS.astoreN X4.here hx rfl (hb hby d1_6) rfl rfl (l' := #[.val (.ref a1), .val (.ref b4)]) rfl ?_
    show Steps p.tables e below (T4.setTop (mkF m 7 #[.val (.ref a1), .val (.ref b4)] [])) _
    refine XS.aloadN X4.here hx rfl (hb hby d1_7) rfl rfl ?_
    show Steps p.tables e below (T4.setTop (mkF m 8 #[.val (.ref a1), .val (.ref b4)] [(.ref b4)])) _
    refine XS.iconst X4.here hx rfl (hb hby d1_8) ?_
    show Steps p.tables e below (T4.setTop (mkF m 9 #[.val (.ref a1), .val (.ref b4)] [(.int (0 : Int32)), (.ref b4)])) _
    refine XS.bipush X4.here hx rfl (hb hby d1_9) ?_
    show Steps p.tables e below (T4.setTop (mkF m 11 #[.val (.ref a1), .val (.ref b4)] [(.int (11 : Int32)), (.int (0 : Int32)), (.ref b4)])) _
    exact kt
  obtain ⟨cl11, Ar11, q11, Sz11, Ng11, Hs11, Gt11⟩ := id V4
  have hin11 : ¬ ((0 : Int32) < 0 ∨ cl11.slots.size ≤ ((0 : Int32)).toNatClampNeg) := inb_of Sz11 ⟨by decide, by decide⟩
  obtain ⟨T11, h11, X11, e11, W11, st11⟩ := stB X4 hx hZ e4 Ar11 (j := (0 : Int32)) hin11 (g := (mkF m 11 #[.val (.ref a1), .val (.ref b4)] [(.int (11 : Int32)), (.int (0 : Int32)), (.ref b4)])) rfl rfl (hb hby d1_11)
  have N11 := Fr.snoc X11 N0 ge6
  have zs12 : n0 ≤ h11.size := Nat.le_trans zs8 (Keep.of_wr W11).1
  have kc13 : Keep h0 h11 [] := kc9.wr W11 (Or.inr sz7)
  have V11 : Arv Z h11 b4 k4 .byte (6 : Int32) [(.int (11 : Int32)), (.int (0 : Int32)), (.int (0 : Int32)), (.int (0 : Int32)), (.int (0 : Int32)), (.int (0 : Int32))] (.int (0 : Int32)) := Arv.set Ar11 q11 Sz11 Ng11 Hs11 Gt11 (fits_nar_byte _) W11 0 rfl (Nat.le_of_ble_eq_true rfl)
  have pre14 : own_Go p e below S0 (T11.setTop (mkF m 17 #[.val (.ref a1), .val (.ref b4)] [(.ref a1), (.int (1 : Int32)), (.ref b4), (.int (0 : Int32)), (.ref a1)])) := by
    intro t kt
    refine pre10 t ?_
    refine st11 _ ?_
    show Steps p.tables e below (T11.setTop (mkF m 12 #[.val (.ref a1), .val (.ref b4)] [])) _
    refine XS.aloadN X11.here hx rfl (hb hby d1_12) rfl rfl ?_
    show Steps p.tables e below (T11.setTop (mkF m 13 #[.val (.ref a1), .val (.ref b4)] [(.ref a1)])) _
    refine XS.iconst X11.here hx rfl (hb hby d1_13) ?_
    show Steps p.tables e below (T11.setTop (mkF m 14 #[.val (.ref a1), .val (.ref b4)] [(.int (0 : Int32)), (.ref a1)])) _
    refine XS.aloadN X11.here hx rfl (hb hby d1_14) rfl rfl ?_
    show Steps p.tables e below (T11.setTop (mkF m 15 #[.val (.ref a1), .val (.ref b4)] [(.ref b4), (.int (0 : Int32)), (.ref a1)])) _
    refine XS.iconst X11.here hx rfl (hb hby d1_15) ?_
    show Steps p.tables e below (T11.setTop (mkF m 16 #[.val (.ref a1), .val (.ref b4)] [(.int (1 : Int32)), (.ref b4), (.int (0 : Int32)), (.ref a1)])) _
    refine XS.aloadN X11.here hx rfl (hb hby d1_16) rfl rfl ?_
    show Steps p.tables e below (T11.setTop (mkF m 17 #[.val (.ref a1), .val (.ref b4)] [(.ref a1), (.int (1 : Int32)), (.ref b4), (.int (0 : Int32)), (.ref a1)])) _
    exact kt
  have f15 : Arv Z h11 a1 k .byte (3 : Int32) [u0, u1, u2] (.int (0 : Int32)) := ((V1.ext E4).other W11 ne5)
  obtain ⟨cl16, Ar16, -, Sz16, Ng16, -, -⟩ := id f15
  have pre17 : own_Go p e below S0 (T11.setTop (mkF m 18 #[.val (.ref a1), .val (.ref b4)] [(.int (3 : Int32)), (.int (1 : Int32)), (.ref b4), (.int (0 : Int32)), (.ref a1)])) := by
    intro t kt
    refine pre14 t ?_
    refine X11.arraylength hx (by rw [e11]; exact Ar16.1) (State.isArrayOf_alike hZ.alike Ar16.2.1) (g := (mkF m 17 #[.val (.ref a1), .val (.ref b4)] [(.ref a1), (.int (1 : Int32)), (.ref b4), (.int (0 : Int32)), (.ref a1)])) rfl rfl (hb hby d1_17) _ ?_
    rw [len_of Sz16 Ng16]
    show Steps p.tables e below (T11.setTop (mkF m 18 #[.val (.ref a1), .val (.ref b4)] [(.int (3 : Int32)), (.int (1 : Int32)), (.ref b4), (.int (0 : Int32)), (.ref a1)])) _
    exact kt
  obtain ⟨T18, h18, L18, X18, e18, N18, K18, V18, st18⟩ := cpA X11 hx hZ hown (hw _ (own_w 5 rfl)) (hw _ (own_w 8 rfl)) (hw _ (own_w 6 rfl)) (hw _ (own_w 7 rfl)) e11 f15 V11 (us := [u0, u1, u2]) (Or.inl ⟨rfl, rfl⟩) (by decide) (by decide) (by decide) (by decide) (by decide) rfl (by decide) N11 ge6 (g := (mkF m 18 #[.val (.ref a1), .val (.ref b4)] [(.int (3 : Int32)), (.int (1 : Int32)), (.ref b4), (.int (0 : Int32)), (.ref a1)])) rfl (by rw [hml]; rfl) rfl (hb hby d1_18) (by decide) (W := 0) (by show 2 * 0 + _ ≤ _; exact Nat.le_of_eq rfl) (by decide)
  have zs19 : n0 ≤ h18.size := Nat.le_trans zs12 K18.1
  have kc20 : Keep h0 h18 [] := kc13.trans K18 (allS (Or.inr sz7) all0)
  have V18q : Arv Z h18 b4 k4 .byte (6 : Int32) [(.int (11 : Int32)), u0, u1, u2, (.int (0 : Int32)), (.int (0 : Int32))] (.int (0 : Int32)) := V18
  have pre21 : own_Go p e below S0 (T18.setTop (mkF m 23 #[.val (.ref a1), .val (.ref b4)] [(.ref b4), (.ref b4)])) := by
    intro t kt
    refine pre17 t ?_
    refine st18 _ ?_
    show Steps p.tables e below (T18.setTop (mkF m 21 #[.val (.ref a1), .val (.ref b4)] [])) _
    refine XS.aloadN X18.here hx rfl (hb hby d1_21) rfl rfl ?_
    show Steps p.tables e below (T18.setTop (mkF m 22 #[.val (.ref a1), .val (.ref b4)] [(.ref b4)])) _
    refine XS.aloadN X18.here hx rfl (hb hby d1_22) rfl rfl ?_
    show Steps p.tables e below (T18.setTop (mkF m 23 #[.val (.ref a1), .val (.ref b4)] [(.ref b4), (.ref b4)])) _
    exact kt
  obtain ⟨cl22, Ar22, -, Sz22, Ng22, -, -⟩ := id V18q
  have pre23 : own_Go p e below S0 (T18.setTop (mkF m 28 #[.val (.ref a1), .val (.ref b4)] [(.int (28 : Int32)), (.int (4 : Int32)), (.ref b4)])) := by
    intro t kt
    refine pre21 t ?_
    refine X18.arraylength hx (by rw [e18]; exact Ar22.1) (State.isArrayOf_alike hZ.alike Ar22.2.1) (g := (mkF m 23 #[.val (.ref a1), .val (.ref b4)] [(.ref b4), (.ref b4)])) rfl rfl (hb hby d1_23) _ ?_
    rw [len_of Sz22 Ng22]
    show Steps p.tables e below (T18.setTop (mkF m 24 #[.val (.ref a1), .val (.ref b4)] [(.int (6 : Int32)), (.ref b4)])) _
    refine XS.iconst X18.here hx rfl (hb hby d1_24) ?_
    show Steps p.tables e below (T18.setTop (mkF m 25 #[.val (.ref a1), .val (.ref b4)] [(.int (2 : Int32)), (.int (6 : Int32)), (.ref b4)])) _
    refine XS.isub X18.here hx rfl (hb hby d1_25) rfl ?_
    show Steps p.tables e below (T18.setTop (mkF m 26 #[.val (.ref a1), .val (.ref b4)] [(.int (4 : Int32)), (.ref b4)])) _
    refine XS.bipush X18.here hx rfl (hb hby d1_26) ?_
    show Steps p.tables e below (T18.setTop (mkF m 28 #[.val (.ref a1), .val (.ref b4)] [(.int (28 : Int32)), (.int (4 : Int32)), (.ref b4)])) _
    exact kt
  obtain ⟨cl24, Ar24, q24, Sz24, Ng24, Hs24, Gt24⟩ := id V18q
  have hin24 : ¬ ((4 : Int32) < 0 ∨ cl24.slots.size ≤ ((4 : Int32)).toNatClampNeg) := inb_of Sz24 ⟨by decide, by decide⟩
  obtain ⟨T24, h24, X24, e24, W24, st24⟩ := stB X18 hx hZ e18 Ar24 (j := (4 : Int32)) hin24 (g := (mkF m 28 #[.val (.ref a1), .val (.ref b4)] [(.int (28 : Int32)), (.int (4 : Int32)), (.ref b4)])) rfl rfl (hb hby d1_28)
  have N24 := Fr.snoc X24 N18 ge6
  have zs25 : n0 ≤ h24.size := Nat.le_trans zs19 (Keep.of_wr W24).1
  have kc26 : Keep h0 h24 [] := kc20.wr W24 (Or.inr sz7)
  have V24 : Arv Z h24 b4 k4 .byte (6 : Int32) [(.int (11 : Int32)), u0, u1, u2, (.int (28 : Int32)), (.int (0 : Int32))] (.int (0 : Int32)) := Arv.set Ar24 q24 Sz24 Ng24 Hs24 Gt24 (fits_nar_byte _) W24 4 rfl (Nat.le_of_ble_eq_true rfl)
  have pre27 : own_Go p e below S0 (T24.setTop (mkF m 31 #[.val (.ref a1), .val (.ref b4)] [(.ref b4), (.ref b4)])) := by
    intro t kt
    refine pre23 t ?_
    refine st24 _ ?_
    show Steps p.tables e below (T24.setTop (mkF m 29 #[.val (.ref a1), .val (.ref b4)] [])) _
    refine XS.aloadN X24.here hx rfl (hb hby d1_29) rfl rfl ?_
    show Steps p.tables e below (T24.setTop (mkF m 30 #[.val (.ref a1), .val (.ref b4)] [(.ref b4)])) _
    refine XS.aloadN X24.here hx rfl (hb hby d1_30) rfl rfl ?_
    show Steps p.tables e below (T24.setTop (mkF m 31 #[.val (.ref a1), .val (.ref b4)] [(.ref b4), (.ref b4)])) _
    exact kt
  obtain ⟨cl28, Ar28, -, Sz28, Ng28, -, -⟩ := id V24
  have pre29 : own_Go p e below S0 (T24.setTop (mkF m 36 #[.val (.ref a1), .val (.ref b4)] [(.int (13 : Int32)), (.int (5 : Int32)), (.ref b4)])) := by
    intro t kt
    refine pre27 t ?_
    refine X24.arraylength hx (by rw [e24]; exact Ar28.1) (State.isArrayOf_alike hZ.alike Ar28.2.1) (g := (mkF m 31 #[.val (.ref a1), .val (.ref b4)] [(.ref b4), (.ref b4)])) rfl rfl (hb hby d1_31) _ ?_
    rw [len_of Sz28 Ng28]
    show Steps p.tables e below (T24.setTop (mkF m 32 #[.val (.ref a1), .val (.ref b4)] [(.int (6 : Int32)), (.ref b4)])) _
    refine XS.iconst X24.here hx rfl (hb hby d1_32) ?_
    show Steps p.tables e below (T24.setTop (mkF m 33 #[.val (.ref a1), .val (.ref b4)] [(.int (1 : Int32)), (.int (6 : Int32)), (.ref b4)])) _
    refine XS.isub X24.here hx rfl (hb hby d1_33) rfl ?_
    show Steps p.tables e below (T24.setTop (mkF m 34 #[.val (.ref a1), .val (.ref b4)] [(.int (5 : Int32)), (.ref b4)])) _
    refine XS.bipush X24.here hx rfl (hb hby d1_34) ?_
    show Steps p.tables e below (T24.setTop (mkF m 36 #[.val (.ref a1), .val (.ref b4)] [(.int (13 : Int32)), (.int (5 : Int32)), (.ref b4)])) _
    exact kt
  obtain ⟨cl30, Ar30, q30, Sz30, Ng30, Hs30, Gt30⟩ := id V24
  have hin30 : ¬ ((5 : Int32) < 0 ∨ cl30.slots.size ≤ ((5 : Int32)).toNatClampNeg) := inb_of Sz30 ⟨by decide, by decide⟩
  obtain ⟨T30, h30, X30, e30, W30, st30⟩ := stB X24 hx hZ e24 Ar30 (j := (5 : Int32)) hin30 (g := (mkF m 36 #[.val (.ref a1), .val (.ref b4)] [(.int (13 : Int32)), (.int (5 : Int32)), (.ref b4)])) rfl rfl (hb hby d1_36)
  have N30 := Fr.snoc X30 N24 ge6
  have zs31 : n0 ≤ h30.size := Nat.le_trans zs25 (Keep.of_wr W30).1
  have kc32 : Keep h0 h30 [] := kc26.wr W30 (Or.inr sz7)
  have V30 : Arv Z h30 b4 k4 .byte (6 : Int32) [(.int (11 : Int32)), u0, u1, u2, (.int (28 : Int32)), (.int (13 : Int32))] (.int (0 : Int32)) := Arv.set Ar30 q30 Sz30 Ng30 Hs30 Gt30 (fits_nar_byte _) W30 5 rfl (Nat.le_of_ble_eq_true rfl)
  have pre33 : own_Go p e below S0 (T30.setTop (mkF m 38 #[.val (.ref a1), .val (.ref b4)] [(.ref b4)])) := by
    intro t kt
    refine pre29 t ?_
    refine st30 _ ?_
    show Steps p.tables e below (T30.setTop (mkF m 37 #[.val (.ref a1), .val (.ref b4)] [])) _
    refine XS.aloadN X30.here hx rfl (hb hby d1_37) rfl rfl ?_
    show Steps p.tables e below (T30.setTop (mkF m 38 #[.val (.ref a1), .val (.ref b4)] [(.ref b4)])) _
    exact kt
  obtain ⟨fs, hr, hrun, hended, hW, hsame⟩ := X30.leave (v := some (.ref b4)) (fun h => by rw [Bd.returns] at h; cases h)
  refine ⟨_, _, fin _ (pre33 _ ?_), hrun, hended, _, _, rfl, ?_, ⟨_, rfl⟩, hW, hsame.mono (by decide) (by decide)⟩
  · jvm_step X30.here [X30.here.top, hx, (hb hby d1_38), X30.method', Bd.returns, Value.isRef, FieldType.isReference]
    first | (intro acts; rw [hr _ acts rfl rfl rfl]) | rw [hr _ _ rfl rfl rfl]
    exact Steps.refl _
  · show Q1n3 Z a1 k u0 u1 u2 h0 n0 _ T30.heap _
    rw [e30]
    exact ⟨b4, k4, rfl, N30, kc32, sz7, V30⟩

theorem own_and3 (x : Int32) : x &&& 3 = 0 ∨ x &&& 3 = 1 ∨ x &&& 3 = 2 ∨ x &&& 3 = 3 := by
  have h := c_mask x 3 2 (by decide) (by decide)
  have he : ∀ a b : Int32, a = b ↔ a.toInt = b.toInt := fun a b => Int32.toInt_inj.symm
  simp only [he, show (0 : Int32).toInt = 0 from rfl, show (1 : Int32).toInt = 1 from rfl, show (2 : Int32).toInt = 2 from rfl, show (3 : Int32).toInt = 3 from rfl]
  omega
theorem own_i2b (x : Int32) : nar .byte (x.toInt8.toInt32) = x.toInt8.toInt32 := by
  show x.toInt8.toInt32.toInt8.toInt32 = x.toInt8.toInt32
  have h1 := c_i2b x
  have h2 := c_i2b (x.toInt8.toInt32)
  exact Int32.toInt_inj.mp (by omega)

theorem pn_0 : plainName "com/example/refertario/refertario/hl7/MllpServerFramePinLaw" = true := by first | (simp [plainName, overriddenIn]; done) | decide +kernel
theorem pd_0 : parseMethodDescriptor "([B)[B" = some ⟨[(.array .byte)], some (.array .byte)⟩ := by decide +kernel
theorem ef_0 (m : MethodId) (x0 : Int32) (x1 : Int32) (x2 : Int32) (x3 : Int32) : entryFrame m #[(.int x0), (.int x1), (.int x2), (.int x3)] maxLocals = mkF m 0 #[.val (.int x0), .val (.int x1), .val (.int x2), .val (.int x3), .unset, .unset, .unset, .unset, .unset, .unset] [] := by first | (simp [entryFrame, mkF, argsToLocals, Value.category, maxLocals]; done) | rfl
def Q0 (Z : State) (p1 : Int32) (p2 : Int32) (p3 : Int32) (p4 : Int32) (h0 : Heap) (n0 : Nat) (v : Option Value) (h : Heap) (L : List Loc) : Prop := v = (some (.int 1)) ∧ Fr n0 L
set_option maxRecDepth 65536 in
set_option maxHeartbeats 40000000 in
theorem rm0 (l : Launch) (Z : State) (a0 : Array Value) (hw : ∀ d ∈ tables_1, d.before a0 Z = true) (ws : List Jvm.Cond) (p1 : Int32) (p2 : Int32) (p3 : Int32) (p4 : Int32) (h0 : Heap) (n0 : Nat) (Z0 : n0 ≤ h0.size) :
    MetFree l x (head1 (Jvm.Cond.code x code maxLocals ret :: ws) room_1) (fun a U => a = #[(.int p1), (.int p2), (.int p3), (.int p4)] ∧ Z.Warmed39 U.vm ∧ U.heap = h0) (fun _ _ _ _ _ => True) (fun _ U o U' => ∃ v L, o = .returned v ∧ Q0 Z p1 p2 p3 p4 h0 n0 v U'.heap L ∧ FrameEnd U o U' L 2 9) := by
  refine MetFree.of_bodySF (plainFor_of_name pn_0) hisR ?_
  intro p e s m args below meth c s₁ Bd hml0 hP hK
  obtain ⟨rfl, hZ, hh⟩ := hP
  have hx := Bd.exec
  have hby := Bd.bytes
  have hml : c.maxLocals = 10 := hml0
  have hown0 := findClass_of_methodNamed Bd.named
  have hown : s.vm.findClass "com/example/refertario/refertario/hl7/MllpServerFramePinLaw" = some m.cls := hown0
  have hnm := (name_of_methodNamed Bd.named Bd.method).1
  have X0 : Stand p l e room_1 s m #[(.int p1), (.int p2), (.int p3), (.int p4)] below meth c s₁ [] 0 0 := Stand.of_body Bd
  have e0 : s₁.heap = h0 := by rw [← hh, Bd.state]; rfl
  have N0 := Fr.nil n0
  obtain ⟨S0, hS0⟩ : ∃ z, z = s₁.setTop (entryFrame m #[(.int p1), (.int p2), (.int p3), (.int p4)] maxLocals) := ⟨_, rfl⟩
  have pre0 : own_Go p e below S0 (s₁.setTop (mkF m 0 #[.val (.int p1), .val (.int p2), .val (.int p3), .val (.int p4), .unset, .unset, .unset, .unset, .unset, .unset] [])) := fun t k => by rw [hS0]; exact castTop (ef_0 m p1 p2 p3 p4) k
  have fin : ∀ t, Steps p.tables e below S0 t → Steps p.tables e below (s₁.setTop (entryFrame m #[(.int p1), (.int p2), (.int p3), (.int p4)] maxLocals)) t := fun t k => by rw [hS0] at k; exact k
  have pre1 : own_Go p e below S0 (s₁.setTop (mkF m 3 #[.val (.int p1), .val (.int p2), .val (.int p3), .val (.int p4), .unset, .unset, .unset, .unset, .unset, .unset] [(.int (p1 &&& (3 : Int32)))])) := by
    intro t kt
    refine pre0 t ?_
    refine XS.iloadN X0.here hx rfl (hb hby at_0) rfl ?_
    show Steps p.tables e below (s₁.setTop (mkF m 1 #[.val (.int p1), .val (.int p2), .val (.int p3), .val (.int p4), .unset, .unset, .unset, .unset, .unset, .unset] [(.int p1)])) _
    refine XS.iconst X0.here hx rfl (hb hby at_1) ?_
    show Steps p.tables e below (s₁.setTop (mkF m 2 #[.val (.int p1), .val (.int p2), .val (.int p3), .val (.int p4), .unset, .unset, .unset, .unset, .unset, .unset] [(.int (3 : Int32)), (.int p1)])) _
    refine XS.iand X0.here hx rfl (hb hby at_2) rfl ?_
    show Steps p.tables e below (s₁.setTop (mkF m 3 #[.val (.int p1), .val (.int p2), .val (.int p3), .val (.int p4), .unset, .unset, .unset, .unset, .unset, .unset] [(.int (p1 &&& (3 : Int32)))])) _
    exact kt
  rcases own_and3 p1 with hk | hk | hk | hk
  · have pre2 : own_Go p e below S0 (s₁.setTop (mkF m 3 #[.val (.int p1), .val (.int p2), .val (.int p3), .val (.int p4), .unset, .unset, .unset, .unset, .unset, .unset] [(.int (0 : Int32))])) := by
      intro t kt
      refine pre1 t ?_
      rw [hk]
      exact kt
    have pre3 : own_Go p e below S0 (s₁.setTop (mkF m 19 #[.val (.int p1), .val (.int p2), .val (.int p3), .val (.int p4), .val (.int (0 : Int32)), .val (.int (p2.toInt8.toInt32)), .val (.int (p3.toInt8.toInt32)), .val (.int (p4.toInt8.toInt32)), .unset, .unset] [(.int (0 : Int32))])) := by
      intro t kt
      refine pre2 t ?_
      refine XS.istore X0.here hx rfl (hb hby at_3) rfl (l' := #[.val (.int p1), .val (.int p2), .val (.int p3), .val (.int p4), .val (.int (0 : Int32)), .unset, .unset, .unset, .unset, .unset]) rfl ?_
      show Steps p.tables e below (s₁.setTop (mkF m 5 #[.val (.int p1), .val (.int p2), .val (.int p3), .val (.int p4), .val (.int (0 : Int32)), .unset, .unset, .unset, .unset, .unset] [])) _
      refine XS.iloadN X0.here hx rfl (hb hby at_5) rfl ?_
      show Steps p.tables e below (s₁.setTop (mkF m 6 #[.val (.int p1), .val (.int p2), .val (.int p3), .val (.int p4), .val (.int (0 : Int32)), .unset, .unset, .unset, .unset, .unset] [(.int p2)])) _
      refine XS.i2b X0.here hx rfl (hb hby at_6) rfl ?_
      show Steps p.tables e below (s₁.setTop (mkF m 7 #[.val (.int p1), .val (.int p2), .val (.int p3), .val (.int p4), .val (.int (0 : Int32)), .unset, .unset, .unset, .unset, .unset] [(.int (p2.toInt8.toInt32))])) _
      refine XS.istore X0.here hx rfl (hb hby at_7) rfl (l' := #[.val (.int p1), .val (.int p2), .val (.int p3), .val (.int p4), .val (.int (0 : Int32)), .val (.int (p2.toInt8.toInt32)), .unset, .unset, .unset, .unset]) rfl ?_
      show Steps p.tables e below (s₁.setTop (mkF m 9 #[.val (.int p1), .val (.int p2), .val (.int p3), .val (.int p4), .val (.int (0 : Int32)), .val (.int (p2.toInt8.toInt32)), .unset, .unset, .unset, .unset] [])) _
      refine XS.iloadN X0.here hx rfl (hb hby at_9) rfl ?_
      show Steps p.tables e below (s₁.setTop (mkF m 10 #[.val (.int p1), .val (.int p2), .val (.int p3), .val (.int p4), .val (.int (0 : Int32)), .val (.int (p2.toInt8.toInt32)), .unset, .unset, .unset, .unset] [(.int p3)])) _
      refine XS.i2b X0.here hx rfl (hb hby at_10) rfl ?_
      show Steps p.tables e below (s₁.setTop (mkF m 11 #[.val (.int p1), .val (.int p2), .val (.int p3), .val (.int p4), .val (.int (0 : Int32)), .val (.int (p2.toInt8.toInt32)), .unset, .unset, .unset, .unset] [(.int (p3.toInt8.toInt32))])) _
      refine XS.istore X0.here hx rfl (hb hby at_11) rfl (l' := #[.val (.int p1), .val (.int p2), .val (.int p3), .val (.int p4), .val (.int (0 : Int32)), .val (.int (p2.toInt8.toInt32)), .val (.int (p3.toInt8.toInt32)), .unset, .unset, .unset]) rfl ?_
      show Steps p.tables e below (s₁.setTop (mkF m 13 #[.val (.int p1), .val (.int p2), .val (.int p3), .val (.int p4), .val (.int (0 : Int32)), .val (.int (p2.toInt8.toInt32)), .val (.int (p3.toInt8.toInt32)), .unset, .unset, .unset] [])) _
      refine XS.iloadN X0.here hx rfl (hb hby at_13) rfl ?_
      show Steps p.tables e below (s₁.setTop (mkF m 14 #[.val (.int p1), .val (.int p2), .val (.int p3), .val (.int p4), .val (.int (0 : Int32)), .val (.int (p2.toInt8.toInt32)), .val (.int (p3.toInt8.toInt32)), .unset, .unset, .unset] [(.int p4)])) _
      refine XS.i2b X0.here hx rfl (hb hby at_14) rfl ?_
      show Steps p.tables e below (s₁.setTop (mkF m 15 #[.val (.int p1), .val (.int p2), .val (.int p3), .val (.int p4), .val (.int (0 : Int32)), .val (.int (p2.toInt8.toInt32)), .val (.int (p3.toInt8.toInt32)), .unset, .unset, .unset] [(.int (p4.toInt8.toInt32))])) _
      refine XS.istore X0.here hx rfl (hb hby at_15) rfl (l' := #[.val (.int p1), .val (.int p2), .val (.int p3), .val (.int p4), .val (.int (0 : Int32)), .val (.int (p2.toInt8.toInt32)), .val (.int (p3.toInt8.toInt32)), .val (.int (p4.toInt8.toInt32)), .unset, .unset]) rfl ?_
      show Steps p.tables e below (s₁.setTop (mkF m 17 #[.val (.int p1), .val (.int p2), .val (.int p3), .val (.int p4), .val (.int (0 : Int32)), .val (.int (p2.toInt8.toInt32)), .val (.int (p3.toInt8.toInt32)), .val (.int (p4.toInt8.toInt32)), .unset, .unset] [])) _
      refine XS.iload X0.here hx rfl (hb hby at_17) rfl ?_
      show Steps p.tables e below (s₁.setTop (mkF m 19 #[.val (.int p1), .val (.int p2), .val (.int p3), .val (.int p4), .val (.int (0 : Int32)), .val (.int (p2.toInt8.toInt32)), .val (.int (p3.toInt8.toInt32)), .val (.int (p4.toInt8.toInt32)), .unset, .unset] [(.int (0 : Int32))])) _
      exact kt
    obtain ⟨T4, h4, k4, X4, e4, E4, A4, st4⟩ := newP X0 hx hZ (hw _ (own_w 0 rfl)) e0 (g := (mkF m 19 #[.val (.int p1), .val (.int p2), .val (.int p3), .val (.int p4), .val (.int (0 : Int32)), .val (.int (p2.toInt8.toInt32)), .val (.int (p3.toInt8.toInt32)), .val (.int (p4.toInt8.toInt32)), .unset, .unset] [(.int (0 : Int32))])) rfl (hb hby at_19) rfl (by decide) (cap := 0) (by decide) (by decide) (by decide) (by decide)
    obtain ⟨b4, g4⟩ : ∃ z, z = h0.size := ⟨_, rfl⟩
    rw [← g4] at A4 st4
    have ge5 : n0 ≤ b4 := Nat.le_trans Z0 (Nat.le_of_eq g4.symm)
    have zs6 : n0 ≤ h4.size := Nat.le_trans Z0 E4.1
    have V4 : Arv Z h4 b4 k4 .byte (0 : Int32) [] (.int (0 : Int32)) := (Arv.new A4 (by decide)).pad (pad_rep [] (.int (0 : Int32)) 0)
    have pre7 : own_Go p e below S0 (T4.setTop (mkF m 60 #[.val (.int p1), .val (.int p2), .val (.int p3), .val (.int p4), .val (.int (0 : Int32)), .val (.int (p2.toInt8.toInt32)), .val (.int (p3.toInt8.toInt32)), .val (.int (p4.toInt8.toInt32)), .val (.ref b4), .unset] [(.ref b4)])) := by
      intro t kt
      refine pre3 t ?_
      refine st4 _ ?_
      show Steps p.tables e below (T4.setTop (mkF m 21 #[.val (.int p1), .val (.int p2), .val (.int p3), .val (.int p4), .val (.int (0 : Int32)), .val (.int (p2.toInt8.toInt32)), .val (.int (p3.toInt8.toInt32)), .val (.int (p4.toInt8.toInt32)), .unset, .unset] [(.ref b4)])) _
      refine XS.astore X4.here hx rfl (hb hby at_21) rfl rfl (l' := #[.val (.int p1), .val (.int p2), .val (.int p3), .val (.int p4), .val (.int (0 : Int32)), .val (.int (p2.toInt8.toInt32)), .val (.int (p3.toInt8.toInt32)), .val (.int (p4.toInt8.toInt32)), .val (.ref b4), .unset]) rfl ?_
      show Steps p.tables e below (T4.setTop (mkF m 23 #[.val (.int p1), .val (.int p2), .val (.int p3), .val (.int p4), .val (.int (0 : Int32)), .val (.int (p2.toInt8.toInt32)), .val (.int (p3.toInt8.toInt32)), .val (.int (p4.toInt8.toInt32)), .val (.ref b4), .unset] [])) _
      refine XS.iload X4.here hx rfl (hb hby at_23) rfl ?_
      show Steps p.tables e below (T4.setTop (mkF m 25 #[.val (.int p1), .val (.int p2), .val (.int p3), .val (.int p4), .val (.int (0 : Int32)), .val (.int (p2.toInt8.toInt32)), .val (.int (p3.toInt8.toInt32)), .val (.int (p4.toInt8.toInt32)), .val (.ref b4), .unset] [(.int (0 : Int32))])) _
      refine XS.ifYes X4.here hx rfl (pc0 := 25) (pc' := 34) rfl (hb hby at_25) rfl ((if0 _ _).trans (flt (by decide : ¬ ((0 : Int32) < (0 : Int32)))).2.2.2) (by decide) (by decide) ?_
      show Steps p.tables e below (T4.setTop (mkF m 34 #[.val (.int p1), .val (.int p2), .val (.int p3), .val (.int p4), .val (.int (0 : Int32)), .val (.int (p2.toInt8.toInt32)), .val (.int (p3.toInt8.toInt32)), .val (.int (p4.toInt8.toInt32)), .val (.ref b4), .unset] [])) _
      refine XS.iload X4.here hx rfl (hb hby at_34) rfl ?_
      show Steps p.tables e below (T4.setTop (mkF m 36 #[.val (.int p1), .val (.int p2), .val (.int p3), .val (.int p4), .val (.int (0 : Int32)), .val (.int (p2.toInt8.toInt32)), .val (.int (p3.toInt8.toInt32)), .val (.int (p4.toInt8.toInt32)), .val (.ref b4), .unset] [(.int (0 : Int32))])) _
      refine XS.iconst X4.here hx rfl (hb hby at_36) ?_
      show Steps p.tables e below (T4.setTop (mkF m 37 #[.val (.int p1), .val (.int p2), .val (.int p3), .val (.int p4), .val (.int (0 : Int32)), .val (.int (p2.toInt8.toInt32)), .val (.int (p3.toInt8.toInt32)), .val (.int (p4.toInt8.toInt32)), .val (.ref b4), .unset] [(.int (1 : Int32)), (.int (0 : Int32))])) _
      refine XS.icmpYes X4.here hx rfl (pc0 := 37) (pc' := 46) rfl (hb hby at_37) rfl (flt (by decide : ¬ ((1 : Int32) < (0 : Int32)))).2.2.2 (by decide) (by decide) ?_
      show Steps p.tables e below (T4.setTop (mkF m 46 #[.val (.int p1), .val (.int p2), .val (.int p3), .val (.int p4), .val (.int (0 : Int32)), .val (.int (p2.toInt8.toInt32)), .val (.int (p3.toInt8.toInt32)), .val (.int (p4.toInt8.toInt32)), .val (.ref b4), .unset] [])) _
      refine XS.iload X4.here hx rfl (hb hby at_46) rfl ?_
      show Steps p.tables e below (T4.setTop (mkF m 48 #[.val (.int p1), .val (.int p2), .val (.int p3), .val (.int p4), .val (.int (0 : Int32)), .val (.int (p2.toInt8.toInt32)), .val (.int (p3.toInt8.toInt32)), .val (.int (p4.toInt8.toInt32)), .val (.ref b4), .unset] [(.int (0 : Int32))])) _
      refine XS.iconst X4.here hx rfl (hb hby at_48) ?_
      show Steps p.tables e below (T4.setTop (mkF m 49 #[.val (.int p1), .val (.int p2), .val (.int p3), .val (.int p4), .val (.int (0 : Int32)), .val (.int (p2.toInt8.toInt32)), .val (.int (p3.toInt8.toInt32)), .val (.int (p4.toInt8.toInt32)), .val (.ref b4), .unset] [(.int (2 : Int32)), (.int (0 : Int32))])) _
      refine XS.icmpYes X4.here hx rfl (pc0 := 49) (pc' := 58) rfl (hb hby at_49) rfl (flt (by decide : ¬ ((2 : Int32) < (0 : Int32)))).2.2.2 (by decide) (by decide) ?_
      show Steps p.tables e below (T4.setTop (mkF m 58 #[.val (.int p1), .val (.int p2), .val (.int p3), .val (.int p4), .val (.int (0 : Int32)), .val (.int (p2.toInt8.toInt32)), .val (.int (p3.toInt8.toInt32)), .val (.int (p4.toInt8.toInt32)), .val (.ref b4), .unset] [])) _
      refine XS.aload X4.here hx rfl (hb hby at_58) rfl rfl ?_
      show Steps p.tables e below (T4.setTop (mkF m 60 #[.val (.int p1), .val (.int p2), .val (.int p3), .val (.int p4), .val (.int (0 : Int32)), .val (.int (p2.toInt8.toInt32)), .val (.int (p3.toInt8.toInt32)), .val (.int (p4.toInt8.toInt32)), .val (.ref b4), .unset] [(.ref b4)])) _
      exact kt
    obtain ⟨_, _, ⟨T8, L8, k8, n8⟩, -, X8, ⟨Lc8, hQ8, l8, y8, z8⟩, st8⟩ := Jvm.LawKit.callS X4 hx (y := (⟨"com/example/refertario/refertario/hl7/MllpServer", "frame", "([B)[B"⟩ : MethodName)) hown (mvT hZ (hw _ (own_w 1 rfl))) (mvT hZ (hw _ (own_w 2 rfl))) (mvT hZ (hw _ (own_w 3 rfl))) (mvT hZ (hw _ (own_w 4 rfl))) (by decide) (backOf (W := 0) (rm1n0 l Z a0 hw [] b4 k4 h4 n0 zs6 V4) hZ (hw _ (own_w 4 rfl)) (hw _ (own_w 3 rfl)) (by decide) (by decide)) (g := (mkF m 60 #[.val (.int p1), .val (.int p2), .val (.int p3), .val (.int p4), .val (.int (0 : Int32)), .val (.int (p2.toInt8.toInt32)), .val (.int (p3.toInt8.toInt32)), .val (.int (p4.toInt8.toInt32)), .val (.ref b4), .unset] [(.ref b4)])) rfl (by rw [hml]; rfl) (argsL := [(.ref b4)]) (rest := []) (lenOf pd_0 rfl) rfl (by show 2 * 0 + _ ≤ _; exact Nat.le_of_eq rfl) (hb hby at_60) (fun _ _ => ⟨rfl, e4, (by decide : 1 + 1 ≤ _), (by decide : 0 + 3 ≤ _)⟩)
    dsimp only [Pt.U, Pt.locs, Pt.cells, Pt.slots] at X8 l8 y8 z8 st8 hQ8
    subst l8 y8 z8
    obtain ⟨b9, kb10, rfl, Nq8, K8, g11, g12⟩ := hQ8
    have N8 := Fr.app N0 Nq8
    have ne13 : b4 ≠ b9 := Nat.ne_of_lt (Nat.lt_of_lt_of_le V4.lt g11)
    have ge14 : n0 ≤ b9 := Nat.le_trans zs6 g11
    have zs15 : n0 ≤ T8.heap.size := Nat.le_trans zs6 K8.1
    have pre16 : own_Go p e below S0 (T8.setTop (mkF m 72 #[.val (.int p1), .val (.int p2), .val (.int p3), .val (.int p4), .val (.int (0 : Int32)), .val (.int (p2.toInt8.toInt32)), .val (.int (p3.toInt8.toInt32)), .val (.int (p4.toInt8.toInt32)), .val (.ref b4), .val (.ref b9)] [(.ref b9)])) := by
      intro t kt
      refine pre7 t ?_
      refine st8 _ ?_
      show Steps p.tables e below (T8.setTop (mkF m 63 #[.val (.int p1), .val (.int p2), .val (.int p3), .val (.int p4), .val (.int (0 : Int32)), .val (.int (p2.toInt8.toInt32)), .val (.int (p3.toInt8.toInt32)), .val (.int (p4.toInt8.toInt32)), .val (.ref b4), .unset] [(.ref b9)])) _
      refine XS.astore X8.here hx rfl (hb hby at_63) rfl rfl (l' := #[.val (.int p1), .val (.int p2), .val (.int p3), .val (.int p4), .val (.int (0 : Int32)), .val (.int (p2.toInt8.toInt32)), .val (.int (p3.toInt8.toInt32)), .val (.int (p4.toInt8.toInt32)), .val (.ref b4), .val (.ref b9)]) rfl ?_
      show Steps p.tables e below (T8.setTop (mkF m 65 #[.val (.int p1), .val (.int p2), .val (.int p3), .val (.int p4), .val (.int (0 : Int32)), .val (.int (p2.toInt8.toInt32)), .val (.int (p3.toInt8.toInt32)), .val (.int (p4.toInt8.toInt32)), .val (.ref b4), .val (.ref b9)] [])) _
      refine XS.aload X8.here hx rfl (hb hby at_65) rfl rfl ?_
      show Steps p.tables e below (T8.setTop (mkF m 67 #[.val (.int p1), .val (.int p2), .val (.int p3), .val (.int p4), .val (.int (0 : Int32)), .val (.int (p2.toInt8.toInt32)), .val (.int (p3.toInt8.toInt32)), .val (.int (p4.toInt8.toInt32)), .val (.ref b4), .val (.ref b9)] [(.ref b9)])) _
      refine XS.ifnullNo X8.here hx rfl (hb hby at_67) rfl ?_
      show Steps p.tables e below (T8.setTop (mkF m 70 #[.val (.int p1), .val (.int p2), .val (.int p3), .val (.int p4), .val (.int (0 : Int32)), .val (.int (p2.toInt8.toInt32)), .val (.int (p3.toInt8.toInt32)), .val (.int (p4.toInt8.toInt32)), .val (.ref b4), .val (.ref b9)] [])) _
      refine XS.aload X8.here hx rfl (hb hby at_70) rfl rfl ?_
      show Steps p.tables e below (T8.setTop (mkF m 72 #[.val (.int p1), .val (.int p2), .val (.int p3), .val (.int p4), .val (.int (0 : Int32)), .val (.int (p2.toInt8.toInt32)), .val (.int (p3.toInt8.toInt32)), .val (.int (p4.toInt8.toInt32)), .val (.ref b4), .val (.ref b9)] [(.ref b9)])) _
      exact kt
    obtain ⟨cl17, Ar17, -, Sz17, Ng17, -, -⟩ := id g12
    have pre18 : own_Go p e below S0 (T8.setTop (mkF m 85 #[.val (.int p1), .val (.int p2), .val (.int p3), .val (.int p4), .val (.int (0 : Int32)), .val (.int (p2.toInt8.toInt32)), .val (.int (p3.toInt8.toInt32)), .val (.int (p4.toInt8.toInt32)), .val (.ref b4), .val (.ref b9)] [(.int (0 : Int32)), (.ref b9)])) := by
      intro t kt
      refine pre16 t ?_
      refine X8.arraylength hx Ar17.1 (State.isArrayOf_alike hZ.alike Ar17.2.1) (g := (mkF m 72 #[.val (.int p1), .val (.int p2), .val (.int p3), .val (.int p4), .val (.int (0 : Int32)), .val (.int (p2.toInt8.toInt32)), .val (.int (p3.toInt8.toInt32)), .val (.int (p4.toInt8.toInt32)), .val (.ref b4), .val (.ref b9)] [(.ref b9)])) rfl rfl (hb hby at_72) _ ?_
      rw [len_of Sz17 Ng17]
      show Steps p.tables e below (T8.setTop (mkF m 73 #[.val (.int p1), .val (.int p2), .val (.int p3), .val (.int p4), .val (.int (0 : Int32)), .val (.int (p2.toInt8.toInt32)), .val (.int (p3.toInt8.toInt32)), .val (.int (p4.toInt8.toInt32)), .val (.ref b4), .val (.ref b9)] [(.int (3 : Int32))])) _
      refine XS.iload X8.here hx rfl (hb hby at_73) rfl ?_
      show Steps p.tables e below (T8.setTop (mkF m 75 #[.val (.int p1), .val (.int p2), .val (.int p3), .val (.int p4), .val (.int (0 : Int32)), .val (.int (p2.toInt8.toInt32)), .val (.int (p3.toInt8.toInt32)), .val (.int (p4.toInt8.toInt32)), .val (.ref b4), .val (.ref b9)] [(.int (0 : Int32)), (.int (3 : Int32))])) _
      refine XS.iconst X8.here hx rfl (hb hby at_75) ?_
      show Steps p.tables e below (T8.setTop (mkF m 76 #[.val (.int p1), .val (.int p2), .val (.int p3), .val (.int p4), .val (.int (0 : Int32)), .val (.int (p2.toInt8.toInt32)), .val (.int (p3.toInt8.toInt32)), .val (.int (p4.toInt8.toInt32)), .val (.ref b4), .val (.ref b9)] [(.int (3 : Int32)), (.int (0 : Int32)), (.int (3 : Int32))])) _
      refine XS.iadd X8.here hx rfl (hb hby at_76) rfl ?_
      show Steps p.tables e below (T8.setTop (mkF m 77 #[.val (.int p1), .val (.int p2), .val (.int p3), .val (.int p4), .val (.int (0 : Int32)), .val (.int (p2.toInt8.toInt32)), .val (.int (p3.toInt8.toInt32)), .val (.int (p4.toInt8.toInt32)), .val (.ref b4), .val (.ref b9)] [(.int (3 : Int32)), (.int (3 : Int32))])) _
      refine XS.icmpYes X8.here hx rfl (pc0 := 77) (pc' := 82) rfl (hb hby at_77) rfl (teq (by decide : (3 : Int32) = (3 : Int32))).1 (by decide) (by decide) ?_
      show Steps p.tables e below (T8.setTop (mkF m 82 #[.val (.int p1), .val (.int p2), .val (.int p3), .val (.int p4), .val (.int (0 : Int32)), .val (.int (p2.toInt8.toInt32)), .val (.int (p3.toInt8.toInt32)), .val (.int (p4.toInt8.toInt32)), .val (.ref b4), .val (.ref b9)] [])) _
      refine XS.aload X8.here hx rfl (hb hby at_82) rfl rfl ?_
      show Steps p.tables e below (T8.setTop (mkF m 84 #[.val (.int p1), .val (.int p2), .val (.int p3), .val (.int p4), .val (.int (0 : Int32)), .val (.int (p2.toInt8.toInt32)), .val (.int (p3.toInt8.toInt32)), .val (.int (p4.toInt8.toInt32)), .val (.ref b4), .val (.ref b9)] [(.ref b9)])) _
      refine XS.iconst X8.here hx rfl (hb hby at_84) ?_
      show Steps p.tables e below (T8.setTop (mkF m 85 #[.val (.int p1), .val (.int p2), .val (.int p3), .val (.int p4), .val (.int (0 : Int32)), .val (.int (p2.toInt8.toInt32)), .val (.int (p3.toInt8.toInt32)), .val (.int (p4.toInt8.toInt32)), .val (.ref b4), .val (.ref b9)] [(.int (0 : Int32)), (.ref b9)])) _
      exact kt
    obtain ⟨cl19, Ar19, -, Sz19, -, Hs19, -⟩ := id g12
    have hin19 : ¬ ((0 : Int32) < 0 ∨ cl19.slots.size ≤ ((0 : Int32)).toNatClampNeg) := inb_of Sz19 ⟨by decide, by decide⟩
    have pre20 : own_Go p e below S0 (T8.setTop (mkF m 149 #[.val (.int p1), .val (.int p2), .val (.int p3), .val (.int p4), .val (.int (0 : Int32)), .val (.int (p2.toInt8.toInt32)), .val (.int (p3.toInt8.toInt32)), .val (.int (p4.toInt8.toInt32)), .val (.ref b4), .val (.ref b9)] [(.int (1 : Int32)), (.ref b9)])) := by
      intro t kt
      refine pre18 t ?_
      refine X8.baloadBytes hx (j := (0 : Int32)) (v := (.int (11 : Int32))) Ar19.1 (State.isArrayOf_alike hZ.alike Ar19.2.1) Ar19.2.2 hin19 (Hs19.at hin19 rfl) (g := (mkF m 85 #[.val (.int p1), .val (.int p2), .val (.int p3), .val (.int p4), .val (.int (0 : Int32)), .val (.int (p2.toInt8.toInt32)), .val (.int (p3.toInt8.toInt32)), .val (.int (p4.toInt8.toInt32)), .val (.ref b4), .val (.ref b9)] [(.int (0 : Int32)), (.ref b9)])) rfl rfl (hb hby at_85) _ ?_
      show Steps p.tables e below (T8.setTop (mkF m 86 #[.val (.int p1), .val (.int p2), .val (.int p3), .val (.int p4), .val (.int (0 : Int32)), .val (.int (p2.toInt8.toInt32)), .val (.int (p3.toInt8.toInt32)), .val (.int (p4.toInt8.toInt32)), .val (.ref b4), .val (.ref b9)] [(.int (11 : Int32))])) _
      refine XS.bipush X8.here hx rfl (hb hby at_86) ?_
      show Steps p.tables e below (T8.setTop (mkF m 88 #[.val (.int p1), .val (.int p2), .val (.int p3), .val (.int p4), .val (.int (0 : Int32)), .val (.int (p2.toInt8.toInt32)), .val (.int (p3.toInt8.toInt32)), .val (.int (p4.toInt8.toInt32)), .val (.ref b4), .val (.ref b9)] [(.int (11 : Int32)), (.int (11 : Int32))])) _
      refine XS.icmpYes X8.here hx rfl (pc0 := 88) (pc' := 93) rfl (hb hby at_88) rfl (teq (by decide : (11 : Int32) = (11 : Int32))).1 (by decide) (by decide) ?_
      show Steps p.tables e below (T8.setTop (mkF m 93 #[.val (.int p1), .val (.int p2), .val (.int p3), .val (.int p4), .val (.int (0 : Int32)), .val (.int (p2.toInt8.toInt32)), .val (.int (p3.toInt8.toInt32)), .val (.int (p4.toInt8.toInt32)), .val (.ref b4), .val (.ref b9)] [])) _
      refine XS.iload X8.here hx rfl (hb hby at_93) rfl ?_
      show Steps p.tables e below (T8.setTop (mkF m 95 #[.val (.int p1), .val (.int p2), .val (.int p3), .val (.int p4), .val (.int (0 : Int32)), .val (.int (p2.toInt8.toInt32)), .val (.int (p3.toInt8.toInt32)), .val (.int (p4.toInt8.toInt32)), .val (.ref b4), .val (.ref b9)] [(.int (0 : Int32))])) _
      refine XS.ifYes X8.here hx rfl (pc0 := 95) (pc' := 109) rfl (hb hby at_95) rfl ((if0 _ _).trans (flt (by decide : ¬ ((0 : Int32) < (0 : Int32)))).2.2.2) (by decide) (by decide) ?_
      show Steps p.tables e below (T8.setTop (mkF m 109 #[.val (.int p1), .val (.int p2), .val (.int p3), .val (.int p4), .val (.int (0 : Int32)), .val (.int (p2.toInt8.toInt32)), .val (.int (p3.toInt8.toInt32)), .val (.int (p4.toInt8.toInt32)), .val (.ref b4), .val (.ref b9)] [])) _
      refine XS.iload X8.here hx rfl (hb hby at_109) rfl ?_
      show Steps p.tables e below (T8.setTop (mkF m 111 #[.val (.int p1), .val (.int p2), .val (.int p3), .val (.int p4), .val (.int (0 : Int32)), .val (.int (p2.toInt8.toInt32)), .val (.int (p3.toInt8.toInt32)), .val (.int (p4.toInt8.toInt32)), .val (.ref b4), .val (.ref b9)] [(.int (0 : Int32))])) _
      refine XS.iconst X8.here hx rfl (hb hby at_111) ?_
      show Steps p.tables e below (T8.setTop (mkF m 112 #[.val (.int p1), .val (.int p2), .val (.int p3), .val (.int p4), .val (.int (0 : Int32)), .val (.int (p2.toInt8.toInt32)), .val (.int (p3.toInt8.toInt32)), .val (.int (p4.toInt8.toInt32)), .val (.ref b4), .val (.ref b9)] [(.int (1 : Int32)), (.int (0 : Int32))])) _
      refine XS.icmpYes X8.here hx rfl (pc0 := 112) (pc' := 126) rfl (hb hby at_112) rfl (flt (by decide : ¬ ((1 : Int32) < (0 : Int32)))).2.2.2 (by decide) (by decide) ?_
      show Steps p.tables e below (T8.setTop (mkF m 126 #[.val (.int p1), .val (.int p2), .val (.int p3), .val (.int p4), .val (.int (0 : Int32)), .val (.int (p2.toInt8.toInt32)), .val (.int (p3.toInt8.toInt32)), .val (.int (p4.toInt8.toInt32)), .val (.ref b4), .val (.ref b9)] [])) _
      refine XS.iload X8.here hx rfl (hb hby at_126) rfl ?_
      show Steps p.tables e below (T8.setTop (mkF m 128 #[.val (.int p1), .val (.int p2), .val (.int p3), .val (.int p4), .val (.int (0 : Int32)), .val (.int (p2.toInt8.toInt32)), .val (.int (p3.toInt8.toInt32)), .val (.int (p4.toInt8.toInt32)), .val (.ref b4), .val (.ref b9)] [(.int (0 : Int32))])) _
      refine XS.iconst X8.here hx rfl (hb hby at_128) ?_
      show Steps p.tables e below (T8.setTop (mkF m 129 #[.val (.int p1), .val (.int p2), .val (.int p3), .val (.int p4), .val (.int (0 : Int32)), .val (.int (p2.toInt8.toInt32)), .val (.int (p3.toInt8.toInt32)), .val (.int (p4.toInt8.toInt32)), .val (.ref b4), .val (.ref b9)] [(.int (2 : Int32)), (.int (0 : Int32))])) _
      refine XS.icmpYes X8.here hx rfl (pc0 := 129) (pc' := 143) rfl (hb hby at_129) rfl (flt (by decide : ¬ ((2 : Int32) < (0 : Int32)))).2.2.2 (by decide) (by decide) ?_
      show Steps p.tables e below (T8.setTop (mkF m 143 #[.val (.int p1), .val (.int p2), .val (.int p3), .val (.int p4), .val (.int (0 : Int32)), .val (.int (p2.toInt8.toInt32)), .val (.int (p3.toInt8.toInt32)), .val (.int (p4.toInt8.toInt32)), .val (.ref b4), .val (.ref b9)] [])) _
      refine XS.aload X8.here hx rfl (hb hby at_143) rfl rfl ?_
      show Steps p.tables e below (T8.setTop (mkF m 145 #[.val (.int p1), .val (.int p2), .val (.int p3), .val (.int p4), .val (.int (0 : Int32)), .val (.int (p2.toInt8.toInt32)), .val (.int (p3.toInt8.toInt32)), .val (.int (p4.toInt8.toInt32)), .val (.ref b4), .val (.ref b9)] [(.ref b9)])) _
      refine XS.iload X8.here hx rfl (hb hby at_145) rfl ?_
      show Steps p.tables e below (T8.setTop (mkF m 147 #[.val (.int p1), .val (.int p2), .val (.int p3), .val (.int p4), .val (.int (0 : Int32)), .val (.int (p2.toInt8.toInt32)), .val (.int (p3.toInt8.toInt32)), .val (.int (p4.toInt8.toInt32)), .val (.ref b4), .val (.ref b9)] [(.int (0 : Int32)), (.ref b9)])) _
      refine XS.iconst X8.here hx rfl (hb hby at_147) ?_
      show Steps p.tables e below (T8.setTop (mkF m 148 #[.val (.int p1), .val (.int p2), .val (.int p3), .val (.int p4), .val (.int (0 : Int32)), .val (.int (p2.toInt8.toInt32)), .val (.int (p3.toInt8.toInt32)), .val (.int (p4.toInt8.toInt32)), .val (.ref b4), .val (.ref b9)] [(.int (1 : Int32)), (.int (0 : Int32)), (.ref b9)])) _
      refine XS.iadd X8.here hx rfl (hb hby at_148) rfl ?_
      show Steps p.tables e below (T8.setTop (mkF m 149 #[.val (.int p1), .val (.int p2), .val (.int p3), .val (.int p4), .val (.int (0 : Int32)), .val (.int (p2.toInt8.toInt32)), .val (.int (p3.toInt8.toInt32)), .val (.int (p4.toInt8.toInt32)), .val (.ref b4), .val (.ref b9)] [(.int (1 : Int32)), (.ref b9)])) _
      exact kt
    obtain ⟨cl21, Ar21, -, Sz21, -, Hs21, -⟩ := id g12
    have hin21 : ¬ ((1 : Int32) < 0 ∨ cl21.slots.size ≤ ((1 : Int32)).toNatClampNeg) := inb_of Sz21 ⟨by decide, by decide⟩
    have pre22 : own_Go p e below S0 (T8.setTop (mkF m 163 #[.val (.int p1), .val (.int p2), .val (.int p3), .val (.int p4), .val (.int (0 : Int32)), .val (.int (p2.toInt8.toInt32)), .val (.int (p3.toInt8.toInt32)), .val (.int (p4.toInt8.toInt32)), .val (.ref b4), .val (.ref b9)] [(.int (2 : Int32)), (.ref b9)])) := by
      intro t kt
      refine pre20 t ?_
      refine X8.baloadBytes hx (j := (1 : Int32)) (v := (.int (28 : Int32))) Ar21.1 (State.isArrayOf_alike hZ.alike Ar21.2.1) Ar21.2.2 hin21 (Hs21.at hin21 rfl) (g := (mkF m 149 #[.val (.int p1), .val (.int p2), .val (.int p3), .val (.int p4), .val (.int (0 : Int32)), .val (.int (p2.toInt8.toInt32)), .val (.int (p3.toInt8.toInt32)), .val (.int (p4.toInt8.toInt32)), .val (.ref b4), .val (.ref b9)] [(.int (1 : Int32)), (.ref b9)])) rfl rfl (hb hby at_149) _ ?_
      show Steps p.tables e below (T8.setTop (mkF m 150 #[.val (.int p1), .val (.int p2), .val (.int p3), .val (.int p4), .val (.int (0 : Int32)), .val (.int (p2.toInt8.toInt32)), .val (.int (p3.toInt8.toInt32)), .val (.int (p4.toInt8.toInt32)), .val (.ref b4), .val (.ref b9)] [(.int (28 : Int32))])) _
      refine XS.bipush X8.here hx rfl (hb hby at_150) ?_
      show Steps p.tables e below (T8.setTop (mkF m 152 #[.val (.int p1), .val (.int p2), .val (.int p3), .val (.int p4), .val (.int (0 : Int32)), .val (.int (p2.toInt8.toInt32)), .val (.int (p3.toInt8.toInt32)), .val (.int (p4.toInt8.toInt32)), .val (.ref b4), .val (.ref b9)] [(.int (28 : Int32)), (.int (28 : Int32))])) _
      refine XS.icmpYes X8.here hx rfl (pc0 := 152) (pc' := 157) rfl (hb hby at_152) rfl (teq (by decide : (28 : Int32) = (28 : Int32))).1 (by decide) (by decide) ?_
      show Steps p.tables e below (T8.setTop (mkF m 157 #[.val (.int p1), .val (.int p2), .val (.int p3), .val (.int p4), .val (.int (0 : Int32)), .val (.int (p2.toInt8.toInt32)), .val (.int (p3.toInt8.toInt32)), .val (.int (p4.toInt8.toInt32)), .val (.ref b4), .val (.ref b9)] [])) _
      refine XS.aload X8.here hx rfl (hb hby at_157) rfl rfl ?_
      show Steps p.tables e below (T8.setTop (mkF m 159 #[.val (.int p1), .val (.int p2), .val (.int p3), .val (.int p4), .val (.int (0 : Int32)), .val (.int (p2.toInt8.toInt32)), .val (.int (p3.toInt8.toInt32)), .val (.int (p4.toInt8.toInt32)), .val (.ref b4), .val (.ref b9)] [(.ref b9)])) _
      refine XS.iload X8.here hx rfl (hb hby at_159) rfl ?_
      show Steps p.tables e below (T8.setTop (mkF m 161 #[.val (.int p1), .val (.int p2), .val (.int p3), .val (.int p4), .val (.int (0 : Int32)), .val (.int (p2.toInt8.toInt32)), .val (.int (p3.toInt8.toInt32)), .val (.int (p4.toInt8.toInt32)), .val (.ref b4), .val (.ref b9)] [(.int (0 : Int32)), (.ref b9)])) _
      refine XS.iconst X8.here hx rfl (hb hby at_161) ?_
      show Steps p.tables e below (T8.setTop (mkF m 162 #[.val (.int p1), .val (.int p2), .val (.int p3), .val (.int p4), .val (.int (0 : Int32)), .val (.int (p2.toInt8.toInt32)), .val (.int (p3.toInt8.toInt32)), .val (.int (p4.toInt8.toInt32)), .val (.ref b4), .val (.ref b9)] [(.int (2 : Int32)), (.int (0 : Int32)), (.ref b9)])) _
      refine XS.iadd X8.here hx rfl (hb hby at_162) rfl ?_
      show Steps p.tables e below (T8.setTop (mkF m 163 #[.val (.int p1), .val (.int p2), .val (.int p3), .val (.int p4), .val (.int (0 : Int32)), .val (.int (p2.toInt8.toInt32)), .val (.int (p3.toInt8.toInt32)), .val (.int (p4.toInt8.toInt32)), .val (.ref b4), .val (.ref b9)] [(.int (2 : Int32)), (.ref b9)])) _
      exact kt
    obtain ⟨cl23, Ar23, -, Sz23, -, Hs23, -⟩ := id g12
    have hin23 : ¬ ((2 : Int32) < 0 ∨ cl23.slots.size ≤ ((2 : Int32)).toNatClampNeg) := inb_of Sz23 ⟨by decide, by decide⟩
    have pre24 : own_Go p e below S0 (T8.setTop (mkF m 222 #[.val (.int p1), .val (.int p2), .val (.int p3), .val (.int p4), .val (.int (0 : Int32)), .val (.int (p2.toInt8.toInt32)), .val (.int (p3.toInt8.toInt32)), .val (.int (p4.toInt8.toInt32)), .val (.ref b4), .val (.ref b9)] [(.int (1 : Int32))])) := by
      intro t kt
      refine pre22 t ?_
      refine X8.baloadBytes hx (j := (2 : Int32)) (v := (.int (13 : Int32))) Ar23.1 (State.isArrayOf_alike hZ.alike Ar23.2.1) Ar23.2.2 hin23 (Hs23.at hin23 rfl) (g := (mkF m 163 #[.val (.int p1), .val (.int p2), .val (.int p3), .val (.int p4), .val (.int (0 : Int32)), .val (.int (p2.toInt8.toInt32)), .val (.int (p3.toInt8.toInt32)), .val (.int (p4.toInt8.toInt32)), .val (.ref b4), .val (.ref b9)] [(.int (2 : Int32)), (.ref b9)])) rfl rfl (hb hby at_163) _ ?_
      show Steps p.tables e below (T8.setTop (mkF m 164 #[.val (.int p1), .val (.int p2), .val (.int p3), .val (.int p4), .val (.int (0 : Int32)), .val (.int (p2.toInt8.toInt32)), .val (.int (p3.toInt8.toInt32)), .val (.int (p4.toInt8.toInt32)), .val (.ref b4), .val (.ref b9)] [(.int (13 : Int32))])) _
      refine XS.bipush X8.here hx rfl (hb hby at_164) ?_
      show Steps p.tables e below (T8.setTop (mkF m 166 #[.val (.int p1), .val (.int p2), .val (.int p3), .val (.int p4), .val (.int (0 : Int32)), .val (.int (p2.toInt8.toInt32)), .val (.int (p3.toInt8.toInt32)), .val (.int (p4.toInt8.toInt32)), .val (.ref b4), .val (.ref b9)] [(.int (13 : Int32)), (.int (13 : Int32))])) _
      refine XS.icmpYes X8.here hx rfl (pc0 := 166) (pc' := 171) rfl (hb hby at_166) rfl (teq (by decide : (13 : Int32) = (13 : Int32))).1 (by decide) (by decide) ?_
      show Steps p.tables e below (T8.setTop (mkF m 171 #[.val (.int p1), .val (.int p2), .val (.int p3), .val (.int p4), .val (.int (0 : Int32)), .val (.int (p2.toInt8.toInt32)), .val (.int (p3.toInt8.toInt32)), .val (.int (p4.toInt8.toInt32)), .val (.ref b4), .val (.ref b9)] [])) _
      refine XS.iload X8.here hx rfl (hb hby at_171) rfl ?_
      show Steps p.tables e below (T8.setTop (mkF m 173 #[.val (.int p1), .val (.int p2), .val (.int p3), .val (.int p4), .val (.int (0 : Int32)), .val (.int (p2.toInt8.toInt32)), .val (.int (p3.toInt8.toInt32)), .val (.int (p4.toInt8.toInt32)), .val (.ref b4), .val (.ref b9)] [(.int (0 : Int32))])) _
      refine XS.ifYes X8.here hx rfl (pc0 := 173) (pc' := 187) rfl (hb hby at_173) rfl ((if0 _ _).trans (flt (by decide : ¬ ((0 : Int32) < (0 : Int32)))).2.2.2) (by decide) (by decide) ?_
      show Steps p.tables e below (T8.setTop (mkF m 187 #[.val (.int p1), .val (.int p2), .val (.int p3), .val (.int p4), .val (.int (0 : Int32)), .val (.int (p2.toInt8.toInt32)), .val (.int (p3.toInt8.toInt32)), .val (.int (p4.toInt8.toInt32)), .val (.ref b4), .val (.ref b9)] [])) _
      refine XS.iload X8.here hx rfl (hb hby at_187) rfl ?_
      show Steps p.tables e below (T8.setTop (mkF m 189 #[.val (.int p1), .val (.int p2), .val (.int p3), .val (.int p4), .val (.int (0 : Int32)), .val (.int (p2.toInt8.toInt32)), .val (.int (p3.toInt8.toInt32)), .val (.int (p4.toInt8.toInt32)), .val (.ref b4), .val (.ref b9)] [(.int (0 : Int32))])) _
      refine XS.iconst X8.here hx rfl (hb hby at_189) ?_
      show Steps p.tables e below (T8.setTop (mkF m 190 #[.val (.int p1), .val (.int p2), .val (.int p3), .val (.int p4), .val (.int (0 : Int32)), .val (.int (p2.toInt8.toInt32)), .val (.int (p3.toInt8.toInt32)), .val (.int (p4.toInt8.toInt32)), .val (.ref b4), .val (.ref b9)] [(.int (1 : Int32)), (.int (0 : Int32))])) _
      refine XS.icmpYes X8.here hx rfl (pc0 := 190) (pc' := 204) rfl (hb hby at_190) rfl (flt (by decide : ¬ ((1 : Int32) < (0 : Int32)))).2.2.2 (by decide) (by decide) ?_
      show Steps p.tables e below (T8.setTop (mkF m 204 #[.val (.int p1), .val (.int p2), .val (.int p3), .val (.int p4), .val (.int (0 : Int32)), .val (.int (p2.toInt8.toInt32)), .val (.int (p3.toInt8.toInt32)), .val (.int (p4.toInt8.toInt32)), .val (.ref b4), .val (.ref b9)] [])) _
      refine XS.iload X8.here hx rfl (hb hby at_204) rfl ?_
      show Steps p.tables e below (T8.setTop (mkF m 206 #[.val (.int p1), .val (.int p2), .val (.int p3), .val (.int p4), .val (.int (0 : Int32)), .val (.int (p2.toInt8.toInt32)), .val (.int (p3.toInt8.toInt32)), .val (.int (p4.toInt8.toInt32)), .val (.ref b4), .val (.ref b9)] [(.int (0 : Int32))])) _
      refine XS.iconst X8.here hx rfl (hb hby at_206) ?_
      show Steps p.tables e below (T8.setTop (mkF m 207 #[.val (.int p1), .val (.int p2), .val (.int p3), .val (.int p4), .val (.int (0 : Int32)), .val (.int (p2.toInt8.toInt32)), .val (.int (p3.toInt8.toInt32)), .val (.int (p4.toInt8.toInt32)), .val (.ref b4), .val (.ref b9)] [(.int (2 : Int32)), (.int (0 : Int32))])) _
      refine XS.icmpYes X8.here hx rfl (pc0 := 207) (pc' := 221) rfl (hb hby at_207) rfl (flt (by decide : ¬ ((2 : Int32) < (0 : Int32)))).2.2.2 (by decide) (by decide) ?_
      show Steps p.tables e below (T8.setTop (mkF m 221 #[.val (.int p1), .val (.int p2), .val (.int p3), .val (.int p4), .val (.int (0 : Int32)), .val (.int (p2.toInt8.toInt32)), .val (.int (p3.toInt8.toInt32)), .val (.int (p4.toInt8.toInt32)), .val (.ref b4), .val (.ref b9)] [])) _
      refine XS.iconst X8.here hx rfl (hb hby at_221) ?_
      show Steps p.tables e below (T8.setTop (mkF m 222 #[.val (.int p1), .val (.int p2), .val (.int p3), .val (.int p4), .val (.int (0 : Int32)), .val (.int (p2.toInt8.toInt32)), .val (.int (p3.toInt8.toInt32)), .val (.int (p4.toInt8.toInt32)), .val (.ref b4), .val (.ref b9)] [(.int (1 : Int32))])) _
      exact kt
    obtain ⟨fs, hr, hrun, hended, hW, hsame⟩ := X8.leave (v := some (.int (1 : Int32))) (fun h => by rw [Bd.returns] at h; cases h)
    refine ⟨_, _, fin _ (pre24 _ ?_), hrun, hended, _, _, rfl, ?_, ⟨_, rfl⟩, hW, hsame.mono (by decide) (by decide)⟩
    · exact retN X8 hx (t := .boolean) Bd.returns (by simp) (hb hby at_222) hr
    · show Q0 Z p1 p2 p3 p4 h0 n0 _ T8.heap _
      exact ⟨rfl, N8⟩
  · have pre25 : own_Go p e below S0 (s₁.setTop (mkF m 3 #[.val (.int p1), .val (.int p2), .val (.int p3), .val (.int p4), .unset, .unset, .unset, .unset, .unset, .unset] [(.int (1 : Int32))])) := by
      intro t kt
      refine pre1 t ?_
      rw [hk]
      exact kt
    have pre26 : own_Go p e below S0 (s₁.setTop (mkF m 19 #[.val (.int p1), .val (.int p2), .val (.int p3), .val (.int p4), .val (.int (1 : Int32)), .val (.int (p2.toInt8.toInt32)), .val (.int (p3.toInt8.toInt32)), .val (.int (p4.toInt8.toInt32)), .unset, .unset] [(.int (1 : Int32))])) := by
      intro t kt
      refine pre25 t ?_
      refine XS.istore X0.here hx rfl (hb hby at_3) rfl (l' := #[.val (.int p1), .val (.int p2), .val (.int p3), .val (.int p4), .val (.int (1 : Int32)), .unset, .unset, .unset, .unset, .unset]) rfl ?_
      show Steps p.tables e below (s₁.setTop (mkF m 5 #[.val (.int p1), .val (.int p2), .val (.int p3), .val (.int p4), .val (.int (1 : Int32)), .unset, .unset, .unset, .unset, .unset] [])) _
      refine XS.iloadN X0.here hx rfl (hb hby at_5) rfl ?_
      show Steps p.tables e below (s₁.setTop (mkF m 6 #[.val (.int p1), .val (.int p2), .val (.int p3), .val (.int p4), .val (.int (1 : Int32)), .unset, .unset, .unset, .unset, .unset] [(.int p2)])) _
      refine XS.i2b X0.here hx rfl (hb hby at_6) rfl ?_
      show Steps p.tables e below (s₁.setTop (mkF m 7 #[.val (.int p1), .val (.int p2), .val (.int p3), .val (.int p4), .val (.int (1 : Int32)), .unset, .unset, .unset, .unset, .unset] [(.int (p2.toInt8.toInt32))])) _
      refine XS.istore X0.here hx rfl (hb hby at_7) rfl (l' := #[.val (.int p1), .val (.int p2), .val (.int p3), .val (.int p4), .val (.int (1 : Int32)), .val (.int (p2.toInt8.toInt32)), .unset, .unset, .unset, .unset]) rfl ?_
      show Steps p.tables e below (s₁.setTop (mkF m 9 #[.val (.int p1), .val (.int p2), .val (.int p3), .val (.int p4), .val (.int (1 : Int32)), .val (.int (p2.toInt8.toInt32)), .unset, .unset, .unset, .unset] [])) _
      refine XS.iloadN X0.here hx rfl (hb hby at_9) rfl ?_
      show Steps p.tables e below (s₁.setTop (mkF m 10 #[.val (.int p1), .val (.int p2), .val (.int p3), .val (.int p4), .val (.int (1 : Int32)), .val (.int (p2.toInt8.toInt32)), .unset, .unset, .unset, .unset] [(.int p3)])) _
      refine XS.i2b X0.here hx rfl (hb hby at_10) rfl ?_
      show Steps p.tables e below (s₁.setTop (mkF m 11 #[.val (.int p1), .val (.int p2), .val (.int p3), .val (.int p4), .val (.int (1 : Int32)), .val (.int (p2.toInt8.toInt32)), .unset, .unset, .unset, .unset] [(.int (p3.toInt8.toInt32))])) _
      refine XS.istore X0.here hx rfl (hb hby at_11) rfl (l' := #[.val (.int p1), .val (.int p2), .val (.int p3), .val (.int p4), .val (.int (1 : Int32)), .val (.int (p2.toInt8.toInt32)), .val (.int (p3.toInt8.toInt32)), .unset, .unset, .unset]) rfl ?_
      show Steps p.tables e below (s₁.setTop (mkF m 13 #[.val (.int p1), .val (.int p2), .val (.int p3), .val (.int p4), .val (.int (1 : Int32)), .val (.int (p2.toInt8.toInt32)), .val (.int (p3.toInt8.toInt32)), .unset, .unset, .unset] [])) _
      refine XS.iloadN X0.here hx rfl (hb hby at_13) rfl ?_
      show Steps p.tables e below (s₁.setTop (mkF m 14 #[.val (.int p1), .val (.int p2), .val (.int p3), .val (.int p4), .val (.int (1 : Int32)), .val (.int (p2.toInt8.toInt32)), .val (.int (p3.toInt8.toInt32)), .unset, .unset, .unset] [(.int p4)])) _
      refine XS.i2b X0.here hx rfl (hb hby at_14) rfl ?_
      show Steps p.tables e below (s₁.setTop (mkF m 15 #[.val (.int p1), .val (.int p2), .val (.int p3), .val (.int p4), .val (.int (1 : Int32)), .val (.int (p2.toInt8.toInt32)), .val (.int (p3.toInt8.toInt32)), .unset, .unset, .unset] [(.int (p4.toInt8.toInt32))])) _
      refine XS.istore X0.here hx rfl (hb hby at_15) rfl (l' := #[.val (.int p1), .val (.int p2), .val (.int p3), .val (.int p4), .val (.int (1 : Int32)), .val (.int (p2.toInt8.toInt32)), .val (.int (p3.toInt8.toInt32)), .val (.int (p4.toInt8.toInt32)), .unset, .unset]) rfl ?_
      show Steps p.tables e below (s₁.setTop (mkF m 17 #[.val (.int p1), .val (.int p2), .val (.int p3), .val (.int p4), .val (.int (1 : Int32)), .val (.int (p2.toInt8.toInt32)), .val (.int (p3.toInt8.toInt32)), .val (.int (p4.toInt8.toInt32)), .unset, .unset] [])) _
      refine XS.iload X0.here hx rfl (hb hby at_17) rfl ?_
      show Steps p.tables e below (s₁.setTop (mkF m 19 #[.val (.int p1), .val (.int p2), .val (.int p3), .val (.int p4), .val (.int (1 : Int32)), .val (.int (p2.toInt8.toInt32)), .val (.int (p3.toInt8.toInt32)), .val (.int (p4.toInt8.toInt32)), .unset, .unset] [(.int (1 : Int32))])) _
      exact kt
    obtain ⟨T27, h27, k27, X27, e27, E27, A27, st27⟩ := newP X0 hx hZ (hw _ (own_w 0 rfl)) e0 (g := (mkF m 19 #[.val (.int p1), .val (.int p2), .val (.int p3), .val (.int p4), .val (.int (1 : Int32)), .val (.int (p2.toInt8.toInt32)), .val (.int (p3.toInt8.toInt32)), .val (.int (p4.toInt8.toInt32)), .unset, .unset] [(.int (1 : Int32))])) rfl (hb hby at_19) rfl (by decide) (cap := 1) (by decide) (by decide) (by decide) (by decide)
    obtain ⟨b27, g27⟩ : ∃ z, z = h0.size := ⟨_, rfl⟩
    rw [← g27] at A27 st27
    have ge28 : n0 ≤ b27 := Nat.le_trans Z0 (Nat.le_of_eq g27.symm)
    have zs29 : n0 ≤ h27.size := Nat.le_trans Z0 E27.1
    have V27 : Arv Z h27 b27 k27 .byte (1 : Int32) [(.int (0 : Int32))] (.int (0 : Int32)) := (Arv.new A27 (by decide)).pad (pad_rep [] (.int (0 : Int32)) 1)
    have pre30 : own_Go p e below S0 (T27.setTop (mkF m 33 #[.val (.int p1), .val (.int p2), .val (.int p3), .val (.int p4), .val (.int (1 : Int32)), .val (.int (p2.toInt8.toInt32)), .val (.int (p3.toInt8.toInt32)), .val (.int (p4.toInt8.toInt32)), .val (.ref b27), .unset] [(.int (p2.toInt8.toInt32)), (.int (0 : Int32)), (.ref b27)])) := by
      intro t kt
      refine pre26 t ?_
      refine st27 _ ?_
      show Steps p.tables e below (T27.setTop (mkF m 21 #[.val (.int p1), .val (.int p2), .val (.int p3), .val (.int p4), .val (.int (1 : Int32)), .val (.int (p2.toInt8.toInt32)), .val (.int (p3.toInt8.toInt32)), .val (.int (p4.toInt8.toInt32)), .unset, .unset] [(.ref b27)])) _
      refine XS.astore X27.here hx rfl (hb hby at_21) rfl rfl (l' := #[.val (.int p1), .val (.int p2), .val (.int p3), .val (.int p4), .val (.int (1 : Int32)), .val (.int (p2.toInt8.toInt32)), .val (.int (p3.toInt8.toInt32)), .val (.int (p4.toInt8.toInt32)), .val (.ref b27), .unset]) rfl ?_
      show Steps p.tables e below (T27.setTop (mkF m 23 #[.val (.int p1), .val (.int p2), .val (.int p3), .val (.int p4), .val (.int (1 : Int32)), .val (.int (p2.toInt8.toInt32)), .val (.int (p3.toInt8.toInt32)), .val (.int (p4.toInt8.toInt32)), .val (.ref b27), .unset] [])) _
      refine XS.iload X27.here hx rfl (hb hby at_23) rfl ?_
      show Steps p.tables e below (T27.setTop (mkF m 25 #[.val (.int p1), .val (.int p2), .val (.int p3), .val (.int p4), .val (.int (1 : Int32)), .val (.int (p2.toInt8.toInt32)), .val (.int (p3.toInt8.toInt32)), .val (.int (p4.toInt8.toInt32)), .val (.ref b27), .unset] [(.int (1 : Int32))])) _
      refine XS.ifNo X27.here hx rfl (hb hby at_25) rfl ((if0 _ _).trans (tlt (by decide : (0 : Int32) < (1 : Int32))).2.2.2) ?_
      show Steps p.tables e below (T27.setTop (mkF m 28 #[.val (.int p1), .val (.int p2), .val (.int p3), .val (.int p4), .val (.int (1 : Int32)), .val (.int (p2.toInt8.toInt32)), .val (.int (p3.toInt8.toInt32)), .val (.int (p4.toInt8.toInt32)), .val (.ref b27), .unset] [])) _
      refine XS.aload X27.here hx rfl (hb hby at_28) rfl rfl ?_
      show Steps p.tables e below (T27.setTop (mkF m 30 #[.val (.int p1), .val (.int p2), .val (.int p3), .val (.int p4), .val (.int (1 : Int32)), .val (.int (p2.toInt8.toInt32)), .val (.int (p3.toInt8.toInt32)), .val (.int (p4.toInt8.toInt32)), .val (.ref b27), .unset] [(.ref b27)])) _
      refine XS.iconst X27.here hx rfl (hb hby at_30) ?_
      show Steps p.tables e below (T27.setTop (mkF m 31 #[.val (.int p1), .val (.int p2), .val (.int p3), .val (.int p4), .val (.int (1 : Int32)), .val (.int (p2.toInt8.toInt32)), .val (.int (p3.toInt8.toInt32)), .val (.int (p4.toInt8.toInt32)), .val (.ref b27), .unset] [(.int (0 : Int32)), (.ref b27)])) _
      refine XS.iload X27.here hx rfl (hb hby at_31) rfl ?_
      show Steps p.tables e below (T27.setTop (mkF m 33 #[.val (.int p1), .val (.int p2), .val (.int p3), .val (.int p4), .val (.int (1 : Int32)), .val (.int (p2.toInt8.toInt32)), .val (.int (p3.toInt8.toInt32)), .val (.int (p4.toInt8.toInt32)), .val (.ref b27), .unset] [(.int (p2.toInt8.toInt32)), (.int (0 : Int32)), (.ref b27)])) _
      exact kt
    obtain ⟨cl31, Ar31, q31, Sz31, Ng31, Hs31, Gt31⟩ := id V27
    have hin31 : ¬ ((0 : Int32) < 0 ∨ cl31.slots.size ≤ ((0 : Int32)).toNatClampNeg) := inb_of Sz31 ⟨by decide, by decide⟩
    obtain ⟨T31, h31, X31, e31, W31, st31⟩ := stB X27 hx hZ e27 Ar31 (j := (0 : Int32)) hin31 (g := (mkF m 33 #[.val (.int p1), .val (.int p2), .val (.int p3), .val (.int p4), .val (.int (1 : Int32)), .val (.int (p2.toInt8.toInt32)), .val (.int (p3.toInt8.toInt32)), .val (.int (p4.toInt8.toInt32)), .val (.ref b27), .unset] [(.int (p2.toInt8.toInt32)), (.int (0 : Int32)), (.ref b27)])) rfl rfl (hb hby at_33)
    have N31 := Fr.snoc X31 N0 ge28
    have zs32 : n0 ≤ h31.size := Nat.le_trans zs29 (Keep.of_wr W31).1
    have V31 : Arv Z h31 b27 k27 .byte (1 : Int32) [(.int (nar .byte (p2.toInt8.toInt32)))] (.int (0 : Int32)) := Arv.set Ar31 q31 Sz31 Ng31 Hs31 Gt31 (fits_nar_byte _) W31 0 rfl (Nat.le_of_ble_eq_true rfl)
    have pre33 : own_Go p e below S0 (T31.setTop (mkF m 60 #[.val (.int p1), .val (.int p2), .val (.int p3), .val (.int p4), .val (.int (1 : Int32)), .val (.int (p2.toInt8.toInt32)), .val (.int (p3.toInt8.toInt32)), .val (.int (p4.toInt8.toInt32)), .val (.ref b27), .unset] [(.ref b27)])) := by
      intro t kt
      refine pre30 t ?_
      refine st31 _ ?_
      show Steps p.tables e below (T31.setTop (mkF m 34 #[.val (.int p1), .val (.int p2), .val (.int p3), .val (.int p4), .val (.int (1 : Int32)), .val (.int (p2.toInt8.toInt32)), .val (.int (p3.toInt8.toInt32)), .val (.int (p4.toInt8.toInt32)), .val (.ref b27), .unset] [])) _
      refine XS.iload X31.here hx rfl (hb hby at_34) rfl ?_
      show Steps p.tables e below (T31.setTop (mkF m 36 #[.val (.int p1), .val (.int p2), .val (.int p3), .val (.int p4), .val (.int (1 : Int32)), .val (.int (p2.toInt8.toInt32)), .val (.int (p3.toInt8.toInt32)), .val (.int (p4.toInt8.toInt32)), .val (.ref b27), .unset] [(.int (1 : Int32))])) _
      refine XS.iconst X31.here hx rfl (hb hby at_36) ?_
      show Steps p.tables e below (T31.setTop (mkF m 37 #[.val (.int p1), .val (.int p2), .val (.int p3), .val (.int p4), .val (.int (1 : Int32)), .val (.int (p2.toInt8.toInt32)), .val (.int (p3.toInt8.toInt32)), .val (.int (p4.toInt8.toInt32)), .val (.ref b27), .unset] [(.int (1 : Int32)), (.int (1 : Int32))])) _
      refine XS.icmpYes X31.here hx rfl (pc0 := 37) (pc' := 46) rfl (hb hby at_37) rfl (flt (by decide : ¬ ((1 : Int32) < (1 : Int32)))).2.2.2 (by decide) (by decide) ?_
      show Steps p.tables e below (T31.setTop (mkF m 46 #[.val (.int p1), .val (.int p2), .val (.int p3), .val (.int p4), .val (.int (1 : Int32)), .val (.int (p2.toInt8.toInt32)), .val (.int (p3.toInt8.toInt32)), .val (.int (p4.toInt8.toInt32)), .val (.ref b27), .unset] [])) _
      refine XS.iload X31.here hx rfl (hb hby at_46) rfl ?_
      show Steps p.tables e below (T31.setTop (mkF m 48 #[.val (.int p1), .val (.int p2), .val (.int p3), .val (.int p4), .val (.int (1 : Int32)), .val (.int (p2.toInt8.toInt32)), .val (.int (p3.toInt8.toInt32)), .val (.int (p4.toInt8.toInt32)), .val (.ref b27), .unset] [(.int (1 : Int32))])) _
      refine XS.iconst X31.here hx rfl (hb hby at_48) ?_
      show Steps p.tables e below (T31.setTop (mkF m 49 #[.val (.int p1), .val (.int p2), .val (.int p3), .val (.int p4), .val (.int (1 : Int32)), .val (.int (p2.toInt8.toInt32)), .val (.int (p3.toInt8.toInt32)), .val (.int (p4.toInt8.toInt32)), .val (.ref b27), .unset] [(.int (2 : Int32)), (.int (1 : Int32))])) _
      refine XS.icmpYes X31.here hx rfl (pc0 := 49) (pc' := 58) rfl (hb hby at_49) rfl (flt (by decide : ¬ ((2 : Int32) < (1 : Int32)))).2.2.2 (by decide) (by decide) ?_
      show Steps p.tables e below (T31.setTop (mkF m 58 #[.val (.int p1), .val (.int p2), .val (.int p3), .val (.int p4), .val (.int (1 : Int32)), .val (.int (p2.toInt8.toInt32)), .val (.int (p3.toInt8.toInt32)), .val (.int (p4.toInt8.toInt32)), .val (.ref b27), .unset] [])) _
      refine XS.aload X31.here hx rfl (hb hby at_58) rfl rfl ?_
      show Steps p.tables e below (T31.setTop (mkF m 60 #[.val (.int p1), .val (.int p2), .val (.int p3), .val (.int p4), .val (.int (1 : Int32)), .val (.int (p2.toInt8.toInt32)), .val (.int (p3.toInt8.toInt32)), .val (.int (p4.toInt8.toInt32)), .val (.ref b27), .unset] [(.ref b27)])) _
      exact kt
    obtain ⟨_, _, ⟨T34, L34, k34, n34⟩, -, X34, ⟨Lc34, hQ34, l34, y34, z34⟩, st34⟩ := Jvm.LawKit.callS X31 hx (y := (⟨"com/example/refertario/refertario/hl7/MllpServer", "frame", "([B)[B"⟩ : MethodName)) hown (mvT hZ (hw _ (own_w 1 rfl))) (mvT hZ (hw _ (own_w 2 rfl))) (mvT hZ (hw _ (own_w 3 rfl))) (mvT hZ (hw _ (own_w 4 rfl))) (by decide) (backOf (W := 0) (rm1n1 l Z a0 hw [] b27 k27 (.int (nar .byte (p2.toInt8.toInt32))) h31 n0 zs32 V31) hZ (hw _ (own_w 4 rfl)) (hw _ (own_w 3 rfl)) (by decide) (by decide)) (g := (mkF m 60 #[.val (.int p1), .val (.int p2), .val (.int p3), .val (.int p4), .val (.int (1 : Int32)), .val (.int (p2.toInt8.toInt32)), .val (.int (p3.toInt8.toInt32)), .val (.int (p4.toInt8.toInt32)), .val (.ref b27), .unset] [(.ref b27)])) rfl (by rw [hml]; rfl) (argsL := [(.ref b27)]) (rest := []) (lenOf pd_0 rfl) rfl (by show 2 * 0 + _ ≤ _; exact Nat.le_of_eq rfl) (hb hby at_60) (fun _ _ => ⟨rfl, e31, (by decide : 1 + 1 ≤ _), (by decide : 1 + 4 ≤ _)⟩)
    dsimp only [Pt.U, Pt.locs, Pt.cells, Pt.slots] at X34 l34 y34 z34 st34 hQ34
    subst l34 y34 z34
    obtain ⟨b35, kb36, rfl, Nq34, K34, g37, g38⟩ := hQ34
    have N34 := Fr.app N31 Nq34
    have ne39 : b27 ≠ b35 := Nat.ne_of_lt (Nat.lt_of_lt_of_le V31.lt g37)
    have ge40 : n0 ≤ b35 := Nat.le_trans zs32 g37
    have zs41 : n0 ≤ T34.heap.size := Nat.le_trans zs32 K34.1
    have pre42 : own_Go p e below S0 (T34.setTop (mkF m 72 #[.val (.int p1), .val (.int p2), .val (.int p3), .val (.int p4), .val (.int (1 : Int32)), .val (.int (p2.toInt8.toInt32)), .val (.int (p3.toInt8.toInt32)), .val (.int (p4.toInt8.toInt32)), .val (.ref b27), .val (.ref b35)] [(.ref b35)])) := by
      intro t kt
      refine pre33 t ?_
      refine st34 _ ?_
      show Steps p.tables e below (T34.setTop (mkF m 63 #[.val (.int p1), .val (.int p2), .val (.int p3), .val (.int p4), .val (.int (1 : Int32)), .val (.int (p2.toInt8.toInt32)), .val (.int (p3.toInt8.toInt32)), .val (.int (p4.toInt8.toInt32)), .val (.ref b27), .unset] [(.ref b35)])) _
      refine XS.astore X34.here hx rfl (hb hby at_63) rfl rfl (l' := #[.val (.int p1), .val (.int p2), .val (.int p3), .val (.int p4), .val (.int (1 : Int32)), .val (.int (p2.toInt8.toInt32)), .val (.int (p3.toInt8.toInt32)), .val (.int (p4.toInt8.toInt32)), .val (.ref b27), .val (.ref b35)]) rfl ?_
      show Steps p.tables e below (T34.setTop (mkF m 65 #[.val (.int p1), .val (.int p2), .val (.int p3), .val (.int p4), .val (.int (1 : Int32)), .val (.int (p2.toInt8.toInt32)), .val (.int (p3.toInt8.toInt32)), .val (.int (p4.toInt8.toInt32)), .val (.ref b27), .val (.ref b35)] [])) _
      refine XS.aload X34.here hx rfl (hb hby at_65) rfl rfl ?_
      show Steps p.tables e below (T34.setTop (mkF m 67 #[.val (.int p1), .val (.int p2), .val (.int p3), .val (.int p4), .val (.int (1 : Int32)), .val (.int (p2.toInt8.toInt32)), .val (.int (p3.toInt8.toInt32)), .val (.int (p4.toInt8.toInt32)), .val (.ref b27), .val (.ref b35)] [(.ref b35)])) _
      refine XS.ifnullNo X34.here hx rfl (hb hby at_67) rfl ?_
      show Steps p.tables e below (T34.setTop (mkF m 70 #[.val (.int p1), .val (.int p2), .val (.int p3), .val (.int p4), .val (.int (1 : Int32)), .val (.int (p2.toInt8.toInt32)), .val (.int (p3.toInt8.toInt32)), .val (.int (p4.toInt8.toInt32)), .val (.ref b27), .val (.ref b35)] [])) _
      refine XS.aload X34.here hx rfl (hb hby at_70) rfl rfl ?_
      show Steps p.tables e below (T34.setTop (mkF m 72 #[.val (.int p1), .val (.int p2), .val (.int p3), .val (.int p4), .val (.int (1 : Int32)), .val (.int (p2.toInt8.toInt32)), .val (.int (p3.toInt8.toInt32)), .val (.int (p4.toInt8.toInt32)), .val (.ref b27), .val (.ref b35)] [(.ref b35)])) _
      exact kt
    obtain ⟨cl43, Ar43, -, Sz43, Ng43, -, -⟩ := id g38
    have pre44 : own_Go p e below S0 (T34.setTop (mkF m 85 #[.val (.int p1), .val (.int p2), .val (.int p3), .val (.int p4), .val (.int (1 : Int32)), .val (.int (p2.toInt8.toInt32)), .val (.int (p3.toInt8.toInt32)), .val (.int (p4.toInt8.toInt32)), .val (.ref b27), .val (.ref b35)] [(.int (0 : Int32)), (.ref b35)])) := by
      intro t kt
      refine pre42 t ?_
      refine X34.arraylength hx Ar43.1 (State.isArrayOf_alike hZ.alike Ar43.2.1) (g := (mkF m 72 #[.val (.int p1), .val (.int p2), .val (.int p3), .val (.int p4), .val (.int (1 : Int32)), .val (.int (p2.toInt8.toInt32)), .val (.int (p3.toInt8.toInt32)), .val (.int (p4.toInt8.toInt32)), .val (.ref b27), .val (.ref b35)] [(.ref b35)])) rfl rfl (hb hby at_72) _ ?_
      rw [len_of Sz43 Ng43]
      show Steps p.tables e below (T34.setTop (mkF m 73 #[.val (.int p1), .val (.int p2), .val (.int p3), .val (.int p4), .val (.int (1 : Int32)), .val (.int (p2.toInt8.toInt32)), .val (.int (p3.toInt8.toInt32)), .val (.int (p4.toInt8.toInt32)), .val (.ref b27), .val (.ref b35)] [(.int (4 : Int32))])) _
      refine XS.iload X34.here hx rfl (hb hby at_73) rfl ?_
      show Steps p.tables e below (T34.setTop (mkF m 75 #[.val (.int p1), .val (.int p2), .val (.int p3), .val (.int p4), .val (.int (1 : Int32)), .val (.int (p2.toInt8.toInt32)), .val (.int (p3.toInt8.toInt32)), .val (.int (p4.toInt8.toInt32)), .val (.ref b27), .val (.ref b35)] [(.int (1 : Int32)), (.int (4 : Int32))])) _
      refine XS.iconst X34.here hx rfl (hb hby at_75) ?_
      show Steps p.tables e below (T34.setTop (mkF m 76 #[.val (.int p1), .val (.int p2), .val (.int p3), .val (.int p4), .val (.int (1 : Int32)), .val (.int (p2.toInt8.toInt32)), .val (.int (p3.toInt8.toInt32)), .val (.int (p4.toInt8.toInt32)), .val (.ref b27), .val (.ref b35)] [(.int (3 : Int32)), (.int (1 : Int32)), (.int (4 : Int32))])) _
      refine XS.iadd X34.here hx rfl (hb hby at_76) rfl ?_
      show Steps p.tables e below (T34.setTop (mkF m 77 #[.val (.int p1), .val (.int p2), .val (.int p3), .val (.int p4), .val (.int (1 : Int32)), .val (.int (p2.toInt8.toInt32)), .val (.int (p3.toInt8.toInt32)), .val (.int (p4.toInt8.toInt32)), .val (.ref b27), .val (.ref b35)] [(.int (4 : Int32)), (.int (4 : Int32))])) _
      refine XS.icmpYes X34.here hx rfl (pc0 := 77) (pc' := 82) rfl (hb hby at_77) rfl (teq (by decide : (4 : Int32) = (4 : Int32))).1 (by decide) (by decide) ?_
      show Steps p.tables e below (T34.setTop (mkF m 82 #[.val (.int p1), .val (.int p2), .val (.int p3), .val (.int p4), .val (.int (1 : Int32)), .val (.int (p2.toInt8.toInt32)), .val (.int (p3.toInt8.toInt32)), .val (.int (p4.toInt8.toInt32)), .val (.ref b27), .val (.ref b35)] [])) _
      refine XS.aload X34.here hx rfl (hb hby at_82) rfl rfl ?_
      show Steps p.tables e below (T34.setTop (mkF m 84 #[.val (.int p1), .val (.int p2), .val (.int p3), .val (.int p4), .val (.int (1 : Int32)), .val (.int (p2.toInt8.toInt32)), .val (.int (p3.toInt8.toInt32)), .val (.int (p4.toInt8.toInt32)), .val (.ref b27), .val (.ref b35)] [(.ref b35)])) _
      refine XS.iconst X34.here hx rfl (hb hby at_84) ?_
      show Steps p.tables e below (T34.setTop (mkF m 85 #[.val (.int p1), .val (.int p2), .val (.int p3), .val (.int p4), .val (.int (1 : Int32)), .val (.int (p2.toInt8.toInt32)), .val (.int (p3.toInt8.toInt32)), .val (.int (p4.toInt8.toInt32)), .val (.ref b27), .val (.ref b35)] [(.int (0 : Int32)), (.ref b35)])) _
      exact kt
    obtain ⟨cl45, Ar45, -, Sz45, -, Hs45, -⟩ := id g38
    have hin45 : ¬ ((0 : Int32) < 0 ∨ cl45.slots.size ≤ ((0 : Int32)).toNatClampNeg) := inb_of Sz45 ⟨by decide, by decide⟩
    have pre46 : own_Go p e below S0 (T34.setTop (mkF m 101 #[.val (.int p1), .val (.int p2), .val (.int p3), .val (.int p4), .val (.int (1 : Int32)), .val (.int (p2.toInt8.toInt32)), .val (.int (p3.toInt8.toInt32)), .val (.int (p4.toInt8.toInt32)), .val (.ref b27), .val (.ref b35)] [(.int (1 : Int32)), (.ref b35)])) := by
      intro t kt
      refine pre44 t ?_
      refine X34.baloadBytes hx (j := (0 : Int32)) (v := (.int (11 : Int32))) Ar45.1 (State.isArrayOf_alike hZ.alike Ar45.2.1) Ar45.2.2 hin45 (Hs45.at hin45 rfl) (g := (mkF m 85 #[.val (.int p1), .val (.int p2), .val (.int p3), .val (.int p4), .val (.int (1 : Int32)), .val (.int (p2.toInt8.toInt32)), .val (.int (p3.toInt8.toInt32)), .val (.int (p4.toInt8.toInt32)), .val (.ref b27), .val (.ref b35)] [(.int (0 : Int32)), (.ref b35)])) rfl rfl (hb hby at_85) _ ?_
      show Steps p.tables e below (T34.setTop (mkF m 86 #[.val (.int p1), .val (.int p2), .val (.int p3), .val (.int p4), .val (.int (1 : Int32)), .val (.int (p2.toInt8.toInt32)), .val (.int (p3.toInt8.toInt32)), .val (.int (p4.toInt8.toInt32)), .val (.ref b27), .val (.ref b35)] [(.int (11 : Int32))])) _
      refine XS.bipush X34.here hx rfl (hb hby at_86) ?_
      show Steps p.tables e below (T34.setTop (mkF m 88 #[.val (.int p1), .val (.int p2), .val (.int p3), .val (.int p4), .val (.int (1 : Int32)), .val (.int (p2.toInt8.toInt32)), .val (.int (p3.toInt8.toInt32)), .val (.int (p4.toInt8.toInt32)), .val (.ref b27), .val (.ref b35)] [(.int (11 : Int32)), (.int (11 : Int32))])) _
      refine XS.icmpYes X34.here hx rfl (pc0 := 88) (pc' := 93) rfl (hb hby at_88) rfl (teq (by decide : (11 : Int32) = (11 : Int32))).1 (by decide) (by decide) ?_
      show Steps p.tables e below (T34.setTop (mkF m 93 #[.val (.int p1), .val (.int p2), .val (.int p3), .val (.int p4), .val (.int (1 : Int32)), .val (.int (p2.toInt8.toInt32)), .val (.int (p3.toInt8.toInt32)), .val (.int (p4.toInt8.toInt32)), .val (.ref b27), .val (.ref b35)] [])) _
      refine XS.iload X34.here hx rfl (hb hby at_93) rfl ?_
      show Steps p.tables e below (T34.setTop (mkF m 95 #[.val (.int p1), .val (.int p2), .val (.int p3), .val (.int p4), .val (.int (1 : Int32)), .val (.int (p2.toInt8.toInt32)), .val (.int (p3.toInt8.toInt32)), .val (.int (p4.toInt8.toInt32)), .val (.ref b27), .val (.ref b35)] [(.int (1 : Int32))])) _
      refine XS.ifNo X34.here hx rfl (hb hby at_95) rfl ((if0 _ _).trans (tlt (by decide : (0 : Int32) < (1 : Int32))).2.2.2) ?_
      show Steps p.tables e below (T34.setTop (mkF m 98 #[.val (.int p1), .val (.int p2), .val (.int p3), .val (.int p4), .val (.int (1 : Int32)), .val (.int (p2.toInt8.toInt32)), .val (.int (p3.toInt8.toInt32)), .val (.int (p4.toInt8.toInt32)), .val (.ref b27), .val (.ref b35)] [])) _
      refine XS.aload X34.here hx rfl (hb hby at_98) rfl rfl ?_
      show Steps p.tables e below (T34.setTop (mkF m 100 #[.val (.int p1), .val (.int p2), .val (.int p3), .val (.int p4), .val (.int (1 : Int32)), .val (.int (p2.toInt8.toInt32)), .val (.int (p3.toInt8.toInt32)), .val (.int (p4.toInt8.toInt32)), .val (.ref b27), .val (.ref b35)] [(.ref b35)])) _
      refine XS.iconst X34.here hx rfl (hb hby at_100) ?_
      show Steps p.tables e below (T34.setTop (mkF m 101 #[.val (.int p1), .val (.int p2), .val (.int p3), .val (.int p4), .val (.int (1 : Int32)), .val (.int (p2.toInt8.toInt32)), .val (.int (p3.toInt8.toInt32)), .val (.int (p4.toInt8.toInt32)), .val (.ref b27), .val (.ref b35)] [(.int (1 : Int32)), (.ref b35)])) _
      exact kt
    obtain ⟨cl47, Ar47, -, Sz47, -, Hs47, -⟩ := id g38
    have hin47 : ¬ ((1 : Int32) < 0 ∨ cl47.slots.size ≤ ((1 : Int32)).toNatClampNeg) := inb_of Sz47 ⟨by decide, by decide⟩
    have pre48 : own_Go p e below S0 (T34.setTop (mkF m 149 #[.val (.int p1), .val (.int p2), .val (.int p3), .val (.int p4), .val (.int (1 : Int32)), .val (.int (p2.toInt8.toInt32)), .val (.int (p3.toInt8.toInt32)), .val (.int (p4.toInt8.toInt32)), .val (.ref b27), .val (.ref b35)] [(.int (2 : Int32)), (.ref b35)])) := by
      intro t kt
      refine pre46 t ?_
      refine X34.baloadBytes hx (j := (1 : Int32)) (v := (.int (nar .byte (p2.toInt8.toInt32)))) Ar47.1 (State.isArrayOf_alike hZ.alike Ar47.2.1) Ar47.2.2 hin47 (Hs47.at hin47 rfl) (g := (mkF m 101 #[.val (.int p1), .val (.int p2), .val (.int p3), .val (.int p4), .val (.int (1 : Int32)), .val (.int (p2.toInt8.toInt32)), .val (.int (p3.toInt8.toInt32)), .val (.int (p4.toInt8.toInt32)), .val (.ref b27), .val (.ref b35)] [(.int (1 : Int32)), (.ref b35)])) rfl rfl (hb hby at_101) _ ?_
      show Steps p.tables e below (T34.setTop (mkF m 102 #[.val (.int p1), .val (.int p2), .val (.int p3), .val (.int p4), .val (.int (1 : Int32)), .val (.int (p2.toInt8.toInt32)), .val (.int (p3.toInt8.toInt32)), .val (.int (p4.toInt8.toInt32)), .val (.ref b27), .val (.ref b35)] [(.int (nar .byte (p2.toInt8.toInt32)))])) _
      refine XS.iload X34.here hx rfl (hb hby at_102) rfl ?_
      show Steps p.tables e below (T34.setTop (mkF m 104 #[.val (.int p1), .val (.int p2), .val (.int p3), .val (.int p4), .val (.int (1 : Int32)), .val (.int (p2.toInt8.toInt32)), .val (.int (p3.toInt8.toInt32)), .val (.int (p4.toInt8.toInt32)), .val (.ref b27), .val (.ref b35)] [(.int (p2.toInt8.toInt32)), (.int (nar .byte (p2.toInt8.toInt32)))])) _
      refine XS.icmpYes X34.here hx rfl (pc0 := 104) (pc' := 109) rfl (hb hby at_104) rfl (teq (own_i2b _)).1 (by decide) (by decide) ?_
      show Steps p.tables e below (T34.setTop (mkF m 109 #[.val (.int p1), .val (.int p2), .val (.int p3), .val (.int p4), .val (.int (1 : Int32)), .val (.int (p2.toInt8.toInt32)), .val (.int (p3.toInt8.toInt32)), .val (.int (p4.toInt8.toInt32)), .val (.ref b27), .val (.ref b35)] [])) _
      refine XS.iload X34.here hx rfl (hb hby at_109) rfl ?_
      show Steps p.tables e below (T34.setTop (mkF m 111 #[.val (.int p1), .val (.int p2), .val (.int p3), .val (.int p4), .val (.int (1 : Int32)), .val (.int (p2.toInt8.toInt32)), .val (.int (p3.toInt8.toInt32)), .val (.int (p4.toInt8.toInt32)), .val (.ref b27), .val (.ref b35)] [(.int (1 : Int32))])) _
      refine XS.iconst X34.here hx rfl (hb hby at_111) ?_
      show Steps p.tables e below (T34.setTop (mkF m 112 #[.val (.int p1), .val (.int p2), .val (.int p3), .val (.int p4), .val (.int (1 : Int32)), .val (.int (p2.toInt8.toInt32)), .val (.int (p3.toInt8.toInt32)), .val (.int (p4.toInt8.toInt32)), .val (.ref b27), .val (.ref b35)] [(.int (1 : Int32)), (.int (1 : Int32))])) _
      refine XS.icmpYes X34.here hx rfl (pc0 := 112) (pc' := 126) rfl (hb hby at_112) rfl (flt (by decide : ¬ ((1 : Int32) < (1 : Int32)))).2.2.2 (by decide) (by decide) ?_
      show Steps p.tables e below (T34.setTop (mkF m 126 #[.val (.int p1), .val (.int p2), .val (.int p3), .val (.int p4), .val (.int (1 : Int32)), .val (.int (p2.toInt8.toInt32)), .val (.int (p3.toInt8.toInt32)), .val (.int (p4.toInt8.toInt32)), .val (.ref b27), .val (.ref b35)] [])) _
      refine XS.iload X34.here hx rfl (hb hby at_126) rfl ?_
      show Steps p.tables e below (T34.setTop (mkF m 128 #[.val (.int p1), .val (.int p2), .val (.int p3), .val (.int p4), .val (.int (1 : Int32)), .val (.int (p2.toInt8.toInt32)), .val (.int (p3.toInt8.toInt32)), .val (.int (p4.toInt8.toInt32)), .val (.ref b27), .val (.ref b35)] [(.int (1 : Int32))])) _
      refine XS.iconst X34.here hx rfl (hb hby at_128) ?_
      show Steps p.tables e below (T34.setTop (mkF m 129 #[.val (.int p1), .val (.int p2), .val (.int p3), .val (.int p4), .val (.int (1 : Int32)), .val (.int (p2.toInt8.toInt32)), .val (.int (p3.toInt8.toInt32)), .val (.int (p4.toInt8.toInt32)), .val (.ref b27), .val (.ref b35)] [(.int (2 : Int32)), (.int (1 : Int32))])) _
      refine XS.icmpYes X34.here hx rfl (pc0 := 129) (pc' := 143) rfl (hb hby at_129) rfl (flt (by decide : ¬ ((2 : Int32) < (1 : Int32)))).2.2.2 (by decide) (by decide) ?_
      show Steps p.tables e below (T34.setTop (mkF m 143 #[.val (.int p1), .val (.int p2), .val (.int p3), .val (.int p4), .val (.int (1 : Int32)), .val (.int (p2.toInt8.toInt32)), .val (.int (p3.toInt8.toInt32)), .val (.int (p4.toInt8.toInt32)), .val (.ref b27), .val (.ref b35)] [])) _
      refine XS.aload X34.here hx rfl (hb hby at_143) rfl rfl ?_
      show Steps p.tables e below (T34.setTop (mkF m 145 #[.val (.int p1), .val (.int p2), .val (.int p3), .val (.int p4), .val (.int (1 : Int32)), .val (.int (p2.toInt8.toInt32)), .val (.int (p3.toInt8.toInt32)), .val (.int (p4.toInt8.toInt32)), .val (.ref b27), .val (.ref b35)] [(.ref b35)])) _
      refine XS.iload X34.here hx rfl (hb hby at_145) rfl ?_
      show Steps p.tables e below (T34.setTop (mkF m 147 #[.val (.int p1), .val (.int p2), .val (.int p3), .val (.int p4), .val (.int (1 : Int32)), .val (.int (p2.toInt8.toInt32)), .val (.int (p3.toInt8.toInt32)), .val (.int (p4.toInt8.toInt32)), .val (.ref b27), .val (.ref b35)] [(.int (1 : Int32)), (.ref b35)])) _
      refine XS.iconst X34.here hx rfl (hb hby at_147) ?_
      show Steps p.tables e below (T34.setTop (mkF m 148 #[.val (.int p1), .val (.int p2), .val (.int p3), .val (.int p4), .val (.int (1 : Int32)), .val (.int (p2.toInt8.toInt32)), .val (.int (p3.toInt8.toInt32)), .val (.int (p4.toInt8.toInt32)), .val (.ref b27), .val (.ref b35)] [(.int (1 : Int32)), (.int (1 : Int32)), (.ref b35)])) _
      refine XS.iadd X34.here hx rfl (hb hby at_148) rfl ?_
      show Steps p.tables e below (T34.setTop (mkF m 149 #[.val (.int p1), .val (.int p2), .val (.int p3), .val (.int p4), .val (.int (1 : Int32)), .val (.int (p2.toInt8.toInt32)), .val (.int (p3.toInt8.toInt32)), .val (.int (p4.toInt8.toInt32)), .val (.ref b27), .val (.ref b35)] [(.int (2 : Int32)), (.ref b35)])) _
      exact kt
    obtain ⟨cl49, Ar49, -, Sz49, -, Hs49, -⟩ := id g38
    have hin49 : ¬ ((2 : Int32) < 0 ∨ cl49.slots.size ≤ ((2 : Int32)).toNatClampNeg) := inb_of Sz49 ⟨by decide, by decide⟩
    have pre50 : own_Go p e below S0 (T34.setTop (mkF m 163 #[.val (.int p1), .val (.int p2), .val (.int p3), .val (.int p4), .val (.int (1 : Int32)), .val (.int (p2.toInt8.toInt32)), .val (.int (p3.toInt8.toInt32)), .val (.int (p4.toInt8.toInt32)), .val (.ref b27), .val (.ref b35)] [(.int (3 : Int32)), (.ref b35)])) := by
      intro t kt
      refine pre48 t ?_
      refine X34.baloadBytes hx (j := (2 : Int32)) (v := (.int (28 : Int32))) Ar49.1 (State.isArrayOf_alike hZ.alike Ar49.2.1) Ar49.2.2 hin49 (Hs49.at hin49 rfl) (g := (mkF m 149 #[.val (.int p1), .val (.int p2), .val (.int p3), .val (.int p4), .val (.int (1 : Int32)), .val (.int (p2.toInt8.toInt32)), .val (.int (p3.toInt8.toInt32)), .val (.int (p4.toInt8.toInt32)), .val (.ref b27), .val (.ref b35)] [(.int (2 : Int32)), (.ref b35)])) rfl rfl (hb hby at_149) _ ?_
      show Steps p.tables e below (T34.setTop (mkF m 150 #[.val (.int p1), .val (.int p2), .val (.int p3), .val (.int p4), .val (.int (1 : Int32)), .val (.int (p2.toInt8.toInt32)), .val (.int (p3.toInt8.toInt32)), .val (.int (p4.toInt8.toInt32)), .val (.ref b27), .val (.ref b35)] [(.int (28 : Int32))])) _
      refine XS.bipush X34.here hx rfl (hb hby at_150) ?_
      show Steps p.tables e below (T34.setTop (mkF m 152 #[.val (.int p1), .val (.int p2), .val (.int p3), .val (.int p4), .val (.int (1 : Int32)), .val (.int (p2.toInt8.toInt32)), .val (.int (p3.toInt8.toInt32)), .val (.int (p4.toInt8.toInt32)), .val (.ref b27), .val (.ref b35)] [(.int (28 : Int32)), (.int (28 : Int32))])) _
      refine XS.icmpYes X34.here hx rfl (pc0 := 152) (pc' := 157) rfl (hb hby at_152) rfl (teq (by decide : (28 : Int32) = (28 : Int32))).1 (by decide) (by decide) ?_
      show Steps p.tables e below (T34.setTop (mkF m 157 #[.val (.int p1), .val (.int p2), .val (.int p3), .val (.int p4), .val (.int (1 : Int32)), .val (.int (p2.toInt8.toInt32)), .val (.int (p3.toInt8.toInt32)), .val (.int (p4.toInt8.toInt32)), .val (.ref b27), .val (.ref b35)] [])) _
      refine XS.aload X34.here hx rfl (hb hby at_157) rfl rfl ?_
      show Steps p.tables e below (T34.setTop (mkF m 159 #[.val (.int p1), .val (.int p2), .val (.int p3), .val (.int p4), .val (.int (1 : Int32)), .val (.int (p2.toInt8.toInt32)), .val (.int (p3.toInt8.toInt32)), .val (.int (p4.toInt8.toInt32)), .val (.ref b27), .val (.ref b35)] [(.ref b35)])) _
      refine XS.iload X34.here hx rfl (hb hby at_159) rfl ?_
      show Steps p.tables e below (T34.setTop (mkF m 161 #[.val (.int p1), .val (.int p2), .val (.int p3), .val (.int p4), .val (.int (1 : Int32)), .val (.int (p2.toInt8.toInt32)), .val (.int (p3.toInt8.toInt32)), .val (.int (p4.toInt8.toInt32)), .val (.ref b27), .val (.ref b35)] [(.int (1 : Int32)), (.ref b35)])) _
      refine XS.iconst X34.here hx rfl (hb hby at_161) ?_
      show Steps p.tables e below (T34.setTop (mkF m 162 #[.val (.int p1), .val (.int p2), .val (.int p3), .val (.int p4), .val (.int (1 : Int32)), .val (.int (p2.toInt8.toInt32)), .val (.int (p3.toInt8.toInt32)), .val (.int (p4.toInt8.toInt32)), .val (.ref b27), .val (.ref b35)] [(.int (2 : Int32)), (.int (1 : Int32)), (.ref b35)])) _
      refine XS.iadd X34.here hx rfl (hb hby at_162) rfl ?_
      show Steps p.tables e below (T34.setTop (mkF m 163 #[.val (.int p1), .val (.int p2), .val (.int p3), .val (.int p4), .val (.int (1 : Int32)), .val (.int (p2.toInt8.toInt32)), .val (.int (p3.toInt8.toInt32)), .val (.int (p4.toInt8.toInt32)), .val (.ref b27), .val (.ref b35)] [(.int (3 : Int32)), (.ref b35)])) _
      exact kt
    obtain ⟨cl51, Ar51, -, Sz51, -, Hs51, -⟩ := id g38
    have hin51 : ¬ ((3 : Int32) < 0 ∨ cl51.slots.size ≤ ((3 : Int32)).toNatClampNeg) := inb_of Sz51 ⟨by decide, by decide⟩
    have pre52 : own_Go p e below S0 (T34.setTop (mkF m 179 #[.val (.int p1), .val (.int p2), .val (.int p3), .val (.int p4), .val (.int (1 : Int32)), .val (.int (p2.toInt8.toInt32)), .val (.int (p3.toInt8.toInt32)), .val (.int (p4.toInt8.toInt32)), .val (.ref b27), .val (.ref b35)] [(.int (0 : Int32)), (.ref b27)])) := by
      intro t kt
      refine pre50 t ?_
      refine X34.baloadBytes hx (j := (3 : Int32)) (v := (.int (13 : Int32))) Ar51.1 (State.isArrayOf_alike hZ.alike Ar51.2.1) Ar51.2.2 hin51 (Hs51.at hin51 rfl) (g := (mkF m 163 #[.val (.int p1), .val (.int p2), .val (.int p3), .val (.int p4), .val (.int (1 : Int32)), .val (.int (p2.toInt8.toInt32)), .val (.int (p3.toInt8.toInt32)), .val (.int (p4.toInt8.toInt32)), .val (.ref b27), .val (.ref b35)] [(.int (3 : Int32)), (.ref b35)])) rfl rfl (hb hby at_163) _ ?_
      show Steps p.tables e below (T34.setTop (mkF m 164 #[.val (.int p1), .val (.int p2), .val (.int p3), .val (.int p4), .val (.int (1 : Int32)), .val (.int (p2.toInt8.toInt32)), .val (.int (p3.toInt8.toInt32)), .val (.int (p4.toInt8.toInt32)), .val (.ref b27), .val (.ref b35)] [(.int (13 : Int32))])) _
      refine XS.bipush X34.here hx rfl (hb hby at_164) ?_
      show Steps p.tables e below (T34.setTop (mkF m 166 #[.val (.int p1), .val (.int p2), .val (.int p3), .val (.int p4), .val (.int (1 : Int32)), .val (.int (p2.toInt8.toInt32)), .val (.int (p3.toInt8.toInt32)), .val (.int (p4.toInt8.toInt32)), .val (.ref b27), .val (.ref b35)] [(.int (13 : Int32)), (.int (13 : Int32))])) _
      refine XS.icmpYes X34.here hx rfl (pc0 := 166) (pc' := 171) rfl (hb hby at_166) rfl (teq (by decide : (13 : Int32) = (13 : Int32))).1 (by decide) (by decide) ?_
      show Steps p.tables e below (T34.setTop (mkF m 171 #[.val (.int p1), .val (.int p2), .val (.int p3), .val (.int p4), .val (.int (1 : Int32)), .val (.int (p2.toInt8.toInt32)), .val (.int (p3.toInt8.toInt32)), .val (.int (p4.toInt8.toInt32)), .val (.ref b27), .val (.ref b35)] [])) _
      refine XS.iload X34.here hx rfl (hb hby at_171) rfl ?_
      show Steps p.tables e below (T34.setTop (mkF m 173 #[.val (.int p1), .val (.int p2), .val (.int p3), .val (.int p4), .val (.int (1 : Int32)), .val (.int (p2.toInt8.toInt32)), .val (.int (p3.toInt8.toInt32)), .val (.int (p4.toInt8.toInt32)), .val (.ref b27), .val (.ref b35)] [(.int (1 : Int32))])) _
      refine XS.ifNo X34.here hx rfl (hb hby at_173) rfl ((if0 _ _).trans (tlt (by decide : (0 : Int32) < (1 : Int32))).2.2.2) ?_
      show Steps p.tables e below (T34.setTop (mkF m 176 #[.val (.int p1), .val (.int p2), .val (.int p3), .val (.int p4), .val (.int (1 : Int32)), .val (.int (p2.toInt8.toInt32)), .val (.int (p3.toInt8.toInt32)), .val (.int (p4.toInt8.toInt32)), .val (.ref b27), .val (.ref b35)] [])) _
      refine XS.aload X34.here hx rfl (hb hby at_176) rfl rfl ?_
      show Steps p.tables e below (T34.setTop (mkF m 178 #[.val (.int p1), .val (.int p2), .val (.int p3), .val (.int p4), .val (.int (1 : Int32)), .val (.int (p2.toInt8.toInt32)), .val (.int (p3.toInt8.toInt32)), .val (.int (p4.toInt8.toInt32)), .val (.ref b27), .val (.ref b35)] [(.ref b27)])) _
      refine XS.iconst X34.here hx rfl (hb hby at_178) ?_
      show Steps p.tables e below (T34.setTop (mkF m 179 #[.val (.int p1), .val (.int p2), .val (.int p3), .val (.int p4), .val (.int (1 : Int32)), .val (.int (p2.toInt8.toInt32)), .val (.int (p3.toInt8.toInt32)), .val (.int (p4.toInt8.toInt32)), .val (.ref b27), .val (.ref b35)] [(.int (0 : Int32)), (.ref b27)])) _
      exact kt
    have f53 : Arv Z T34.heap b27 k27 .byte (1 : Int32) [(.int (nar .byte (p2.toInt8.toInt32)))] (.int (0 : Int32)) := (V31.keep K34 nin0)
    obtain ⟨cl54, Ar54, -, Sz54, -, Hs54, -⟩ := id f53
    have hin54 : ¬ ((0 : Int32) < 0 ∨ cl54.slots.size ≤ ((0 : Int32)).toNatClampNeg) := inb_of Sz54 ⟨by decide, by decide⟩
    have pre55 : own_Go p e below S0 (T34.setTop (mkF m 222 #[.val (.int p1), .val (.int p2), .val (.int p3), .val (.int p4), .val (.int (1 : Int32)), .val (.int (p2.toInt8.toInt32)), .val (.int (p3.toInt8.toInt32)), .val (.int (p4.toInt8.toInt32)), .val (.ref b27), .val (.ref b35)] [(.int (1 : Int32))])) := by
      intro t kt
      refine pre52 t ?_
      refine X34.baloadBytes hx (j := (0 : Int32)) (v := (.int (nar .byte (p2.toInt8.toInt32)))) Ar54.1 (State.isArrayOf_alike hZ.alike Ar54.2.1) Ar54.2.2 hin54 (Hs54.at hin54 rfl) (g := (mkF m 179 #[.val (.int p1), .val (.int p2), .val (.int p3), .val (.int p4), .val (.int (1 : Int32)), .val (.int (p2.toInt8.toInt32)), .val (.int (p3.toInt8.toInt32)), .val (.int (p4.toInt8.toInt32)), .val (.ref b27), .val (.ref b35)] [(.int (0 : Int32)), (.ref b27)])) rfl rfl (hb hby at_179) _ ?_
      show Steps p.tables e below (T34.setTop (mkF m 180 #[.val (.int p1), .val (.int p2), .val (.int p3), .val (.int p4), .val (.int (1 : Int32)), .val (.int (p2.toInt8.toInt32)), .val (.int (p3.toInt8.toInt32)), .val (.int (p4.toInt8.toInt32)), .val (.ref b27), .val (.ref b35)] [(.int (nar .byte (p2.toInt8.toInt32)))])) _
      refine XS.iload X34.here hx rfl (hb hby at_180) rfl ?_
      show Steps p.tables e below (T34.setTop (mkF m 182 #[.val (.int p1), .val (.int p2), .val (.int p3), .val (.int p4), .val (.int (1 : Int32)), .val (.int (p2.toInt8.toInt32)), .val (.int (p3.toInt8.toInt32)), .val (.int (p4.toInt8.toInt32)), .val (.ref b27), .val (.ref b35)] [(.int (p2.toInt8.toInt32)), (.int (nar .byte (p2.toInt8.toInt32)))])) _
      refine XS.icmpYes X34.here hx rfl (pc0 := 182) (pc' := 187) rfl (hb hby at_182) rfl (teq (own_i2b _)).1 (by decide) (by decide) ?_
      show Steps p.tables e below (T34.setTop (mkF m 187 #[.val (.int p1), .val (.int p2), .val (.int p3), .val (.int p4), .val (.int (1 : Int32)), .val (.int (p2.toInt8.toInt32)), .val (.int (p3.toInt8.toInt32)), .val (.int (p4.toInt8.toInt32)), .val (.ref b27), .val (.ref b35)] [])) _
      refine XS.iload X34.here hx rfl (hb hby at_187) rfl ?_
      show Steps p.tables e below (T34.setTop (mkF m 189 #[.val (.int p1), .val (.int p2), .val (.int p3), .val (.int p4), .val (.int (1 : Int32)), .val (.int (p2.toInt8.toInt32)), .val (.int (p3.toInt8.toInt32)), .val (.int (p4.toInt8.toInt32)), .val (.ref b27), .val (.ref b35)] [(.int (1 : Int32))])) _
      refine XS.iconst X34.here hx rfl (hb hby at_189) ?_
      show Steps p.tables e below (T34.setTop (mkF m 190 #[.val (.int p1), .val (.int p2), .val (.int p3), .val (.int p4), .val (.int (1 : Int32)), .val (.int (p2.toInt8.toInt32)), .val (.int (p3.toInt8.toInt32)), .val (.int (p4.toInt8.toInt32)), .val (.ref b27), .val (.ref b35)] [(.int (1 : Int32)), (.int (1 : Int32))])) _
      refine XS.icmpYes X34.here hx rfl (pc0 := 190) (pc' := 204) rfl (hb hby at_190) rfl (flt (by decide : ¬ ((1 : Int32) < (1 : Int32)))).2.2.2 (by decide) (by decide) ?_
      show Steps p.tables e below (T34.setTop (mkF m 204 #[.val (.int p1), .val (.int p2), .val (.int p3), .val (.int p4), .val (.int (1 : Int32)), .val (.int (p2.toInt8.toInt32)), .val (.int (p3.toInt8.toInt32)), .val (.int (p4.toInt8.toInt32)), .val (.ref b27), .val (.ref b35)] [])) _
      refine XS.iload X34.here hx rfl (hb hby at_204) rfl ?_
      show Steps p.tables e below (T34.setTop (mkF m 206 #[.val (.int p1), .val (.int p2), .val (.int p3), .val (.int p4), .val (.int (1 : Int32)), .val (.int (p2.toInt8.toInt32)), .val (.int (p3.toInt8.toInt32)), .val (.int (p4.toInt8.toInt32)), .val (.ref b27), .val (.ref b35)] [(.int (1 : Int32))])) _
      refine XS.iconst X34.here hx rfl (hb hby at_206) ?_
      show Steps p.tables e below (T34.setTop (mkF m 207 #[.val (.int p1), .val (.int p2), .val (.int p3), .val (.int p4), .val (.int (1 : Int32)), .val (.int (p2.toInt8.toInt32)), .val (.int (p3.toInt8.toInt32)), .val (.int (p4.toInt8.toInt32)), .val (.ref b27), .val (.ref b35)] [(.int (2 : Int32)), (.int (1 : Int32))])) _
      refine XS.icmpYes X34.here hx rfl (pc0 := 207) (pc' := 221) rfl (hb hby at_207) rfl (flt (by decide : ¬ ((2 : Int32) < (1 : Int32)))).2.2.2 (by decide) (by decide) ?_
      show Steps p.tables e below (T34.setTop (mkF m 221 #[.val (.int p1), .val (.int p2), .val (.int p3), .val (.int p4), .val (.int (1 : Int32)), .val (.int (p2.toInt8.toInt32)), .val (.int (p3.toInt8.toInt32)), .val (.int (p4.toInt8.toInt32)), .val (.ref b27), .val (.ref b35)] [])) _
      refine XS.iconst X34.here hx rfl (hb hby at_221) ?_
      show Steps p.tables e below (T34.setTop (mkF m 222 #[.val (.int p1), .val (.int p2), .val (.int p3), .val (.int p4), .val (.int (1 : Int32)), .val (.int (p2.toInt8.toInt32)), .val (.int (p3.toInt8.toInt32)), .val (.int (p4.toInt8.toInt32)), .val (.ref b27), .val (.ref b35)] [(.int (1 : Int32))])) _
      exact kt
    obtain ⟨fs, hr, hrun, hended, hW, hsame⟩ := X34.leave (v := some (.int (1 : Int32))) (fun h => by rw [Bd.returns] at h; cases h)
    refine ⟨_, _, fin _ (pre55 _ ?_), hrun, hended, _, _, rfl, ?_, ⟨_, rfl⟩, hW, hsame.mono (by decide) (by decide)⟩
    · exact retN X34 hx (t := .boolean) Bd.returns (by simp) (hb hby at_222) hr
    · show Q0 Z p1 p2 p3 p4 h0 n0 _ T34.heap _
      exact ⟨rfl, N34⟩
  · have pre56 : own_Go p e below S0 (s₁.setTop (mkF m 3 #[.val (.int p1), .val (.int p2), .val (.int p3), .val (.int p4), .unset, .unset, .unset, .unset, .unset, .unset] [(.int (2 : Int32))])) := by
      intro t kt
      refine pre1 t ?_
      rw [hk]
      exact kt
    have pre57 : own_Go p e below S0 (s₁.setTop (mkF m 19 #[.val (.int p1), .val (.int p2), .val (.int p3), .val (.int p4), .val (.int (2 : Int32)), .val (.int (p2.toInt8.toInt32)), .val (.int (p3.toInt8.toInt32)), .val (.int (p4.toInt8.toInt32)), .unset, .unset] [(.int (2 : Int32))])) := by
      intro t kt
      refine pre56 t ?_
      refine XS.istore X0.here hx rfl (hb hby at_3) rfl (l' := #[.val (.int p1), .val (.int p2), .val (.int p3), .val (.int p4), .val (.int (2 : Int32)), .unset, .unset, .unset, .unset, .unset]) rfl ?_
      show Steps p.tables e below (s₁.setTop (mkF m 5 #[.val (.int p1), .val (.int p2), .val (.int p3), .val (.int p4), .val (.int (2 : Int32)), .unset, .unset, .unset, .unset, .unset] [])) _
      refine XS.iloadN X0.here hx rfl (hb hby at_5) rfl ?_
      show Steps p.tables e below (s₁.setTop (mkF m 6 #[.val (.int p1), .val (.int p2), .val (.int p3), .val (.int p4), .val (.int (2 : Int32)), .unset, .unset, .unset, .unset, .unset] [(.int p2)])) _
      refine XS.i2b X0.here hx rfl (hb hby at_6) rfl ?_
      show Steps p.tables e below (s₁.setTop (mkF m 7 #[.val (.int p1), .val (.int p2), .val (.int p3), .val (.int p4), .val (.int (2 : Int32)), .unset, .unset, .unset, .unset, .unset] [(.int (p2.toInt8.toInt32))])) _
      refine XS.istore X0.here hx rfl (hb hby at_7) rfl (l' := #[.val (.int p1), .val (.int p2), .val (.int p3), .val (.int p4), .val (.int (2 : Int32)), .val (.int (p2.toInt8.toInt32)), .unset, .unset, .unset, .unset]) rfl ?_
      show Steps p.tables e below (s₁.setTop (mkF m 9 #[.val (.int p1), .val (.int p2), .val (.int p3), .val (.int p4), .val (.int (2 : Int32)), .val (.int (p2.toInt8.toInt32)), .unset, .unset, .unset, .unset] [])) _
      refine XS.iloadN X0.here hx rfl (hb hby at_9) rfl ?_
      show Steps p.tables e below (s₁.setTop (mkF m 10 #[.val (.int p1), .val (.int p2), .val (.int p3), .val (.int p4), .val (.int (2 : Int32)), .val (.int (p2.toInt8.toInt32)), .unset, .unset, .unset, .unset] [(.int p3)])) _
      refine XS.i2b X0.here hx rfl (hb hby at_10) rfl ?_
      show Steps p.tables e below (s₁.setTop (mkF m 11 #[.val (.int p1), .val (.int p2), .val (.int p3), .val (.int p4), .val (.int (2 : Int32)), .val (.int (p2.toInt8.toInt32)), .unset, .unset, .unset, .unset] [(.int (p3.toInt8.toInt32))])) _
      refine XS.istore X0.here hx rfl (hb hby at_11) rfl (l' := #[.val (.int p1), .val (.int p2), .val (.int p3), .val (.int p4), .val (.int (2 : Int32)), .val (.int (p2.toInt8.toInt32)), .val (.int (p3.toInt8.toInt32)), .unset, .unset, .unset]) rfl ?_
      show Steps p.tables e below (s₁.setTop (mkF m 13 #[.val (.int p1), .val (.int p2), .val (.int p3), .val (.int p4), .val (.int (2 : Int32)), .val (.int (p2.toInt8.toInt32)), .val (.int (p3.toInt8.toInt32)), .unset, .unset, .unset] [])) _
      refine XS.iloadN X0.here hx rfl (hb hby at_13) rfl ?_
      show Steps p.tables e below (s₁.setTop (mkF m 14 #[.val (.int p1), .val (.int p2), .val (.int p3), .val (.int p4), .val (.int (2 : Int32)), .val (.int (p2.toInt8.toInt32)), .val (.int (p3.toInt8.toInt32)), .unset, .unset, .unset] [(.int p4)])) _
      refine XS.i2b X0.here hx rfl (hb hby at_14) rfl ?_
      show Steps p.tables e below (s₁.setTop (mkF m 15 #[.val (.int p1), .val (.int p2), .val (.int p3), .val (.int p4), .val (.int (2 : Int32)), .val (.int (p2.toInt8.toInt32)), .val (.int (p3.toInt8.toInt32)), .unset, .unset, .unset] [(.int (p4.toInt8.toInt32))])) _
      refine XS.istore X0.here hx rfl (hb hby at_15) rfl (l' := #[.val (.int p1), .val (.int p2), .val (.int p3), .val (.int p4), .val (.int (2 : Int32)), .val (.int (p2.toInt8.toInt32)), .val (.int (p3.toInt8.toInt32)), .val (.int (p4.toInt8.toInt32)), .unset, .unset]) rfl ?_
      show Steps p.tables e below (s₁.setTop (mkF m 17 #[.val (.int p1), .val (.int p2), .val (.int p3), .val (.int p4), .val (.int (2 : Int32)), .val (.int (p2.toInt8.toInt32)), .val (.int (p3.toInt8.toInt32)), .val (.int (p4.toInt8.toInt32)), .unset, .unset] [])) _
      refine XS.iload X0.here hx rfl (hb hby at_17) rfl ?_
      show Steps p.tables e below (s₁.setTop (mkF m 19 #[.val (.int p1), .val (.int p2), .val (.int p3), .val (.int p4), .val (.int (2 : Int32)), .val (.int (p2.toInt8.toInt32)), .val (.int (p3.toInt8.toInt32)), .val (.int (p4.toInt8.toInt32)), .unset, .unset] [(.int (2 : Int32))])) _
      exact kt
    obtain ⟨T58, h58, k58, X58, e58, E58, A58, st58⟩ := newP X0 hx hZ (hw _ (own_w 0 rfl)) e0 (g := (mkF m 19 #[.val (.int p1), .val (.int p2), .val (.int p3), .val (.int p4), .val (.int (2 : Int32)), .val (.int (p2.toInt8.toInt32)), .val (.int (p3.toInt8.toInt32)), .val (.int (p4.toInt8.toInt32)), .unset, .unset] [(.int (2 : Int32))])) rfl (hb hby at_19) rfl (by decide) (cap := 2) (by decide) (by decide) (by decide) (by decide)
    obtain ⟨b58, g58⟩ : ∃ z, z = h0.size := ⟨_, rfl⟩
    rw [← g58] at A58 st58
    have ge59 : n0 ≤ b58 := Nat.le_trans Z0 (Nat.le_of_eq g58.symm)
    have zs60 : n0 ≤ h58.size := Nat.le_trans Z0 E58.1
    have V58 : Arv Z h58 b58 k58 .byte (2 : Int32) [(.int (0 : Int32)), (.int (0 : Int32))] (.int (0 : Int32)) := (Arv.new A58 (by decide)).pad (pad_rep [] (.int (0 : Int32)) 2)
    have pre61 : own_Go p e below S0 (T58.setTop (mkF m 33 #[.val (.int p1), .val (.int p2), .val (.int p3), .val (.int p4), .val (.int (2 : Int32)), .val (.int (p2.toInt8.toInt32)), .val (.int (p3.toInt8.toInt32)), .val (.int (p4.toInt8.toInt32)), .val (.ref b58), .unset] [(.int (p2.toInt8.toInt32)), (.int (0 : Int32)), (.ref b58)])) := by
      intro t kt
      refine pre57 t ?_
      refine st58 _ ?_
      show Steps p.tables e below (T58.setTop (mkF m 21 #[.val (.int p1), .val (.int p2), .val (.int p3), .val (.int p4), .val (.int (2 : Int32)), .val (.int (p2.toInt8.toInt32)), .val (.int (p3.toInt8.toInt32)), .val (.int (p4.toInt8.toInt32)), .unset, .unset] [(.ref b58)])) _
      refine XS.astore X58.here hx rfl (hb hby at_21) rfl rfl (l' := #[.val (.int p1), .val (.int p2), .val (.int p3), .val (.int p4), .val (.int (2 : Int32)), .val (.int (p2.toInt8.toInt32)), .val (.int (p3.toInt8.toInt32)), .val (.int (p4.toInt8.toInt32)), .val (.ref b58), .unset]) rfl ?_
      show Steps p.tables e below (T58.setTop (mkF m 23 #[.val (.int p1), .val (.int p2), .val (.int p3), .val (.int p4), .val (.int (2 : Int32)), .val (.int (p2.toInt8.toInt32)), .val (.int (p3.toInt8.toInt32)), .val (.int (p4.toInt8.toInt32)), .val (.ref b58), .unset] [])) _
      refine XS.iload X58.here hx rfl (hb hby at_23) rfl ?_
      show Steps p.tables e below (T58.setTop (mkF m 25 #[.val (.int p1), .val (.int p2), .val (.int p3), .val (.int p4), .val (.int (2 : Int32)), .val (.int (p2.toInt8.toInt32)), .val (.int (p3.toInt8.toInt32)), .val (.int (p4.toInt8.toInt32)), .val (.ref b58), .unset] [(.int (2 : Int32))])) _
      refine XS.ifNo X58.here hx rfl (hb hby at_25) rfl ((if0 _ _).trans (tlt (by decide : (0 : Int32) < (2 : Int32))).2.2.2) ?_
      show Steps p.tables e below (T58.setTop (mkF m 28 #[.val (.int p1), .val (.int p2), .val (.int p3), .val (.int p4), .val (.int (2 : Int32)), .val (.int (p2.toInt8.toInt32)), .val (.int (p3.toInt8.toInt32)), .val (.int (p4.toInt8.toInt32)), .val (.ref b58), .unset] [])) _
      refine XS.aload X58.here hx rfl (hb hby at_28) rfl rfl ?_
      show Steps p.tables e below (T58.setTop (mkF m 30 #[.val (.int p1), .val (.int p2), .val (.int p3), .val (.int p4), .val (.int (2 : Int32)), .val (.int (p2.toInt8.toInt32)), .val (.int (p3.toInt8.toInt32)), .val (.int (p4.toInt8.toInt32)), .val (.ref b58), .unset] [(.ref b58)])) _
      refine XS.iconst X58.here hx rfl (hb hby at_30) ?_
      show Steps p.tables e below (T58.setTop (mkF m 31 #[.val (.int p1), .val (.int p2), .val (.int p3), .val (.int p4), .val (.int (2 : Int32)), .val (.int (p2.toInt8.toInt32)), .val (.int (p3.toInt8.toInt32)), .val (.int (p4.toInt8.toInt32)), .val (.ref b58), .unset] [(.int (0 : Int32)), (.ref b58)])) _
      refine XS.iload X58.here hx rfl (hb hby at_31) rfl ?_
      show Steps p.tables e below (T58.setTop (mkF m 33 #[.val (.int p1), .val (.int p2), .val (.int p3), .val (.int p4), .val (.int (2 : Int32)), .val (.int (p2.toInt8.toInt32)), .val (.int (p3.toInt8.toInt32)), .val (.int (p4.toInt8.toInt32)), .val (.ref b58), .unset] [(.int (p2.toInt8.toInt32)), (.int (0 : Int32)), (.ref b58)])) _
      exact kt
    obtain ⟨cl62, Ar62, q62, Sz62, Ng62, Hs62, Gt62⟩ := id V58
    have hin62 : ¬ ((0 : Int32) < 0 ∨ cl62.slots.size ≤ ((0 : Int32)).toNatClampNeg) := inb_of Sz62 ⟨by decide, by decide⟩
    obtain ⟨T62, h62, X62, e62, W62, st62⟩ := stB X58 hx hZ e58 Ar62 (j := (0 : Int32)) hin62 (g := (mkF m 33 #[.val (.int p1), .val (.int p2), .val (.int p3), .val (.int p4), .val (.int (2 : Int32)), .val (.int (p2.toInt8.toInt32)), .val (.int (p3.toInt8.toInt32)), .val (.int (p4.toInt8.toInt32)), .val (.ref b58), .unset] [(.int (p2.toInt8.toInt32)), (.int (0 : Int32)), (.ref b58)])) rfl rfl (hb hby at_33)
    have N62 := Fr.snoc X62 N0 ge59
    have zs63 : n0 ≤ h62.size := Nat.le_trans zs60 (Keep.of_wr W62).1
    have V62 : Arv Z h62 b58 k58 .byte (2 : Int32) [(.int (nar .byte (p2.toInt8.toInt32))), (.int (0 : Int32))] (.int (0 : Int32)) := Arv.set Ar62 q62 Sz62 Ng62 Hs62 Gt62 (fits_nar_byte _) W62 0 rfl (Nat.le_of_ble_eq_true rfl)
    have pre64 : own_Go p e below S0 (T62.setTop (mkF m 45 #[.val (.int p1), .val (.int p2), .val (.int p3), .val (.int p4), .val (.int (2 : Int32)), .val (.int (p2.toInt8.toInt32)), .val (.int (p3.toInt8.toInt32)), .val (.int (p4.toInt8.toInt32)), .val (.ref b58), .unset] [(.int (p3.toInt8.toInt32)), (.int (1 : Int32)), (.ref b58)])) := by
      intro t kt
      refine pre61 t ?_
      refine st62 _ ?_
      show Steps p.tables e below (T62.setTop (mkF m 34 #[.val (.int p1), .val (.int p2), .val (.int p3), .val (.int p4), .val (.int (2 : Int32)), .val (.int (p2.toInt8.toInt32)), .val (.int (p3.toInt8.toInt32)), .val (.int (p4.toInt8.toInt32)), .val (.ref b58), .unset] [])) _
      refine XS.iload X62.here hx rfl (hb hby at_34) rfl ?_
      show Steps p.tables e below (T62.setTop (mkF m 36 #[.val (.int p1), .val (.int p2), .val (.int p3), .val (.int p4), .val (.int (2 : Int32)), .val (.int (p2.toInt8.toInt32)), .val (.int (p3.toInt8.toInt32)), .val (.int (p4.toInt8.toInt32)), .val (.ref b58), .unset] [(.int (2 : Int32))])) _
      refine XS.iconst X62.here hx rfl (hb hby at_36) ?_
      show Steps p.tables e below (T62.setTop (mkF m 37 #[.val (.int p1), .val (.int p2), .val (.int p3), .val (.int p4), .val (.int (2 : Int32)), .val (.int (p2.toInt8.toInt32)), .val (.int (p3.toInt8.toInt32)), .val (.int (p4.toInt8.toInt32)), .val (.ref b58), .unset] [(.int (1 : Int32)), (.int (2 : Int32))])) _
      refine XS.icmpNo X62.here hx rfl (hb hby at_37) rfl (tlt (by decide : (1 : Int32) < (2 : Int32))).2.2.2 ?_
      show Steps p.tables e below (T62.setTop (mkF m 40 #[.val (.int p1), .val (.int p2), .val (.int p3), .val (.int p4), .val (.int (2 : Int32)), .val (.int (p2.toInt8.toInt32)), .val (.int (p3.toInt8.toInt32)), .val (.int (p4.toInt8.toInt32)), .val (.ref b58), .unset] [])) _
      refine XS.aload X62.here hx rfl (hb hby at_40) rfl rfl ?_
      show Steps p.tables e below (T62.setTop (mkF m 42 #[.val (.int p1), .val (.int p2), .val (.int p3), .val (.int p4), .val (.int (2 : Int32)), .val (.int (p2.toInt8.toInt32)), .val (.int (p3.toInt8.toInt32)), .val (.int (p4.toInt8.toInt32)), .val (.ref b58), .unset] [(.ref b58)])) _
      refine XS.iconst X62.here hx rfl (hb hby at_42) ?_
      show Steps p.tables e below (T62.setTop (mkF m 43 #[.val (.int p1), .val (.int p2), .val (.int p3), .val (.int p4), .val (.int (2 : Int32)), .val (.int (p2.toInt8.toInt32)), .val (.int (p3.toInt8.toInt32)), .val (.int (p4.toInt8.toInt32)), .val (.ref b58), .unset] [(.int (1 : Int32)), (.ref b58)])) _
      refine XS.iload X62.here hx rfl (hb hby at_43) rfl ?_
      show Steps p.tables e below (T62.setTop (mkF m 45 #[.val (.int p1), .val (.int p2), .val (.int p3), .val (.int p4), .val (.int (2 : Int32)), .val (.int (p2.toInt8.toInt32)), .val (.int (p3.toInt8.toInt32)), .val (.int (p4.toInt8.toInt32)), .val (.ref b58), .unset] [(.int (p3.toInt8.toInt32)), (.int (1 : Int32)), (.ref b58)])) _
      exact kt
    obtain ⟨cl65, Ar65, q65, Sz65, Ng65, Hs65, Gt65⟩ := id V62
    have hin65 : ¬ ((1 : Int32) < 0 ∨ cl65.slots.size ≤ ((1 : Int32)).toNatClampNeg) := inb_of Sz65 ⟨by decide, by decide⟩
    obtain ⟨T65, h65, X65, e65, W65, st65⟩ := stB X62 hx hZ e62 Ar65 (j := (1 : Int32)) hin65 (g := (mkF m 45 #[.val (.int p1), .val (.int p2), .val (.int p3), .val (.int p4), .val (.int (2 : Int32)), .val (.int (p2.toInt8.toInt32)), .val (.int (p3.toInt8.toInt32)), .val (.int (p4.toInt8.toInt32)), .val (.ref b58), .unset] [(.int (p3.toInt8.toInt32)), (.int (1 : Int32)), (.ref b58)])) rfl rfl (hb hby at_45)
    have N65 := Fr.snoc X65 N62 ge59
    have zs66 : n0 ≤ h65.size := Nat.le_trans zs63 (Keep.of_wr W65).1
    have V65 : Arv Z h65 b58 k58 .byte (2 : Int32) [(.int (nar .byte (p2.toInt8.toInt32))), (.int (nar .byte (p3.toInt8.toInt32)))] (.int (0 : Int32)) := Arv.set Ar65 q65 Sz65 Ng65 Hs65 Gt65 (fits_nar_byte _) W65 1 rfl (Nat.le_of_ble_eq_true rfl)
    have pre67 : own_Go p e below S0 (T65.setTop (mkF m 60 #[.val (.int p1), .val (.int p2), .val (.int p3), .val (.int p4), .val (.int (2 : Int32)), .val (.int (p2.toInt8.toInt32)), .val (.int (p3.toInt8.toInt32)), .val (.int (p4.toInt8.toInt32)), .val (.ref b58), .unset] [(.ref b58)])) := by
      intro t kt
      refine pre64 t ?_
      refine st65 _ ?_
      show Steps p.tables e below (T65.setTop (mkF m 46 #[.val (.int p1), .val (.int p2), .val (.int p3), .val (.int p4), .val (.int (2 : Int32)), .val (.int (p2.toInt8.toInt32)), .val (.int (p3.toInt8.toInt32)), .val (.int (p4.toInt8.toInt32)), .val (.ref b58), .unset] [])) _
      refine XS.iload X65.here hx rfl (hb hby at_46) rfl ?_
      show Steps p.tables e below (T65.setTop (mkF m 48 #[.val (.int p1), .val (.int p2), .val (.int p3), .val (.int p4), .val (.int (2 : Int32)), .val (.int (p2.toInt8.toInt32)), .val (.int (p3.toInt8.toInt32)), .val (.int (p4.toInt8.toInt32)), .val (.ref b58), .unset] [(.int (2 : Int32))])) _
      refine XS.iconst X65.here hx rfl (hb hby at_48) ?_
      show Steps p.tables e below (T65.setTop (mkF m 49 #[.val (.int p1), .val (.int p2), .val (.int p3), .val (.int p4), .val (.int (2 : Int32)), .val (.int (p2.toInt8.toInt32)), .val (.int (p3.toInt8.toInt32)), .val (.int (p4.toInt8.toInt32)), .val (.ref b58), .unset] [(.int (2 : Int32)), (.int (2 : Int32))])) _
      refine XS.icmpYes X65.here hx rfl (pc0 := 49) (pc' := 58) rfl (hb hby at_49) rfl (flt (by decide : ¬ ((2 : Int32) < (2 : Int32)))).2.2.2 (by decide) (by decide) ?_
      show Steps p.tables e below (T65.setTop (mkF m 58 #[.val (.int p1), .val (.int p2), .val (.int p3), .val (.int p4), .val (.int (2 : Int32)), .val (.int (p2.toInt8.toInt32)), .val (.int (p3.toInt8.toInt32)), .val (.int (p4.toInt8.toInt32)), .val (.ref b58), .unset] [])) _
      refine XS.aload X65.here hx rfl (hb hby at_58) rfl rfl ?_
      show Steps p.tables e below (T65.setTop (mkF m 60 #[.val (.int p1), .val (.int p2), .val (.int p3), .val (.int p4), .val (.int (2 : Int32)), .val (.int (p2.toInt8.toInt32)), .val (.int (p3.toInt8.toInt32)), .val (.int (p4.toInt8.toInt32)), .val (.ref b58), .unset] [(.ref b58)])) _
      exact kt
    obtain ⟨_, _, ⟨T68, L68, k68, n68⟩, -, X68, ⟨Lc68, hQ68, l68, y68, z68⟩, st68⟩ := Jvm.LawKit.callS X65 hx (y := (⟨"com/example/refertario/refertario/hl7/MllpServer", "frame", "([B)[B"⟩ : MethodName)) hown (mvT hZ (hw _ (own_w 1 rfl))) (mvT hZ (hw _ (own_w 2 rfl))) (mvT hZ (hw _ (own_w 3 rfl))) (mvT hZ (hw _ (own_w 4 rfl))) (by decide) (backOf (W := 0) (rm1n2 l Z a0 hw [] b58 k58 (.int (nar .byte (p2.toInt8.toInt32))) (.int (nar .byte (p3.toInt8.toInt32))) h65 n0 zs66 V65) hZ (hw _ (own_w 4 rfl)) (hw _ (own_w 3 rfl)) (by decide) (by decide)) (g := (mkF m 60 #[.val (.int p1), .val (.int p2), .val (.int p3), .val (.int p4), .val (.int (2 : Int32)), .val (.int (p2.toInt8.toInt32)), .val (.int (p3.toInt8.toInt32)), .val (.int (p4.toInt8.toInt32)), .val (.ref b58), .unset] [(.ref b58)])) rfl (by rw [hml]; rfl) (argsL := [(.ref b58)]) (rest := []) (lenOf pd_0 rfl) rfl (by show 2 * 0 + _ ≤ _; exact Nat.le_of_eq rfl) (hb hby at_60) (fun _ _ => ⟨rfl, e65, (by decide : 1 + 1 ≤ _), (by decide : 2 + 5 ≤ _)⟩)
    dsimp only [Pt.U, Pt.locs, Pt.cells, Pt.slots] at X68 l68 y68 z68 st68 hQ68
    subst l68 y68 z68
    obtain ⟨b69, kb70, rfl, Nq68, K68, g71, g72⟩ := hQ68
    have N68 := Fr.app N65 Nq68
    have ne73 : b58 ≠ b69 := Nat.ne_of_lt (Nat.lt_of_lt_of_le V65.lt g71)
    have ge74 : n0 ≤ b69 := Nat.le_trans zs66 g71
    have zs75 : n0 ≤ T68.heap.size := Nat.le_trans zs66 K68.1
    have pre76 : own_Go p e below S0 (T68.setTop (mkF m 72 #[.val (.int p1), .val (.int p2), .val (.int p3), .val (.int p4), .val (.int (2 : Int32)), .val (.int (p2.toInt8.toInt32)), .val (.int (p3.toInt8.toInt32)), .val (.int (p4.toInt8.toInt32)), .val (.ref b58), .val (.ref b69)] [(.ref b69)])) := by
      intro t kt
      refine pre67 t ?_
      refine st68 _ ?_
      show Steps p.tables e below (T68.setTop (mkF m 63 #[.val (.int p1), .val (.int p2), .val (.int p3), .val (.int p4), .val (.int (2 : Int32)), .val (.int (p2.toInt8.toInt32)), .val (.int (p3.toInt8.toInt32)), .val (.int (p4.toInt8.toInt32)), .val (.ref b58), .unset] [(.ref b69)])) _
      refine XS.astore X68.here hx rfl (hb hby at_63) rfl rfl (l' := #[.val (.int p1), .val (.int p2), .val (.int p3), .val (.int p4), .val (.int (2 : Int32)), .val (.int (p2.toInt8.toInt32)), .val (.int (p3.toInt8.toInt32)), .val (.int (p4.toInt8.toInt32)), .val (.ref b58), .val (.ref b69)]) rfl ?_
      show Steps p.tables e below (T68.setTop (mkF m 65 #[.val (.int p1), .val (.int p2), .val (.int p3), .val (.int p4), .val (.int (2 : Int32)), .val (.int (p2.toInt8.toInt32)), .val (.int (p3.toInt8.toInt32)), .val (.int (p4.toInt8.toInt32)), .val (.ref b58), .val (.ref b69)] [])) _
      refine XS.aload X68.here hx rfl (hb hby at_65) rfl rfl ?_
      show Steps p.tables e below (T68.setTop (mkF m 67 #[.val (.int p1), .val (.int p2), .val (.int p3), .val (.int p4), .val (.int (2 : Int32)), .val (.int (p2.toInt8.toInt32)), .val (.int (p3.toInt8.toInt32)), .val (.int (p4.toInt8.toInt32)), .val (.ref b58), .val (.ref b69)] [(.ref b69)])) _
      refine XS.ifnullNo X68.here hx rfl (hb hby at_67) rfl ?_
      show Steps p.tables e below (T68.setTop (mkF m 70 #[.val (.int p1), .val (.int p2), .val (.int p3), .val (.int p4), .val (.int (2 : Int32)), .val (.int (p2.toInt8.toInt32)), .val (.int (p3.toInt8.toInt32)), .val (.int (p4.toInt8.toInt32)), .val (.ref b58), .val (.ref b69)] [])) _
      refine XS.aload X68.here hx rfl (hb hby at_70) rfl rfl ?_
      show Steps p.tables e below (T68.setTop (mkF m 72 #[.val (.int p1), .val (.int p2), .val (.int p3), .val (.int p4), .val (.int (2 : Int32)), .val (.int (p2.toInt8.toInt32)), .val (.int (p3.toInt8.toInt32)), .val (.int (p4.toInt8.toInt32)), .val (.ref b58), .val (.ref b69)] [(.ref b69)])) _
      exact kt
    obtain ⟨cl77, Ar77, -, Sz77, Ng77, -, -⟩ := id g72
    have pre78 : own_Go p e below S0 (T68.setTop (mkF m 85 #[.val (.int p1), .val (.int p2), .val (.int p3), .val (.int p4), .val (.int (2 : Int32)), .val (.int (p2.toInt8.toInt32)), .val (.int (p3.toInt8.toInt32)), .val (.int (p4.toInt8.toInt32)), .val (.ref b58), .val (.ref b69)] [(.int (0 : Int32)), (.ref b69)])) := by
      intro t kt
      refine pre76 t ?_
      refine X68.arraylength hx Ar77.1 (State.isArrayOf_alike hZ.alike Ar77.2.1) (g := (mkF m 72 #[.val (.int p1), .val (.int p2), .val (.int p3), .val (.int p4), .val (.int (2 : Int32)), .val (.int (p2.toInt8.toInt32)), .val (.int (p3.toInt8.toInt32)), .val (.int (p4.toInt8.toInt32)), .val (.ref b58), .val (.ref b69)] [(.ref b69)])) rfl rfl (hb hby at_72) _ ?_
      rw [len_of Sz77 Ng77]
      show Steps p.tables e below (T68.setTop (mkF m 73 #[.val (.int p1), .val (.int p2), .val (.int p3), .val (.int p4), .val (.int (2 : Int32)), .val (.int (p2.toInt8.toInt32)), .val (.int (p3.toInt8.toInt32)), .val (.int (p4.toInt8.toInt32)), .val (.ref b58), .val (.ref b69)] [(.int (5 : Int32))])) _
      refine XS.iload X68.here hx rfl (hb hby at_73) rfl ?_
      show Steps p.tables e below (T68.setTop (mkF m 75 #[.val (.int p1), .val (.int p2), .val (.int p3), .val (.int p4), .val (.int (2 : Int32)), .val (.int (p2.toInt8.toInt32)), .val (.int (p3.toInt8.toInt32)), .val (.int (p4.toInt8.toInt32)), .val (.ref b58), .val (.ref b69)] [(.int (2 : Int32)), (.int (5 : Int32))])) _
      refine XS.iconst X68.here hx rfl (hb hby at_75) ?_
      show Steps p.tables e below (T68.setTop (mkF m 76 #[.val (.int p1), .val (.int p2), .val (.int p3), .val (.int p4), .val (.int (2 : Int32)), .val (.int (p2.toInt8.toInt32)), .val (.int (p3.toInt8.toInt32)), .val (.int (p4.toInt8.toInt32)), .val (.ref b58), .val (.ref b69)] [(.int (3 : Int32)), (.int (2 : Int32)), (.int (5 : Int32))])) _
      refine XS.iadd X68.here hx rfl (hb hby at_76) rfl ?_
      show Steps p.tables e below (T68.setTop (mkF m 77 #[.val (.int p1), .val (.int p2), .val (.int p3), .val (.int p4), .val (.int (2 : Int32)), .val (.int (p2.toInt8.toInt32)), .val (.int (p3.toInt8.toInt32)), .val (.int (p4.toInt8.toInt32)), .val (.ref b58), .val (.ref b69)] [(.int (5 : Int32)), (.int (5 : Int32))])) _
      refine XS.icmpYes X68.here hx rfl (pc0 := 77) (pc' := 82) rfl (hb hby at_77) rfl (teq (by decide : (5 : Int32) = (5 : Int32))).1 (by decide) (by decide) ?_
      show Steps p.tables e below (T68.setTop (mkF m 82 #[.val (.int p1), .val (.int p2), .val (.int p3), .val (.int p4), .val (.int (2 : Int32)), .val (.int (p2.toInt8.toInt32)), .val (.int (p3.toInt8.toInt32)), .val (.int (p4.toInt8.toInt32)), .val (.ref b58), .val (.ref b69)] [])) _
      refine XS.aload X68.here hx rfl (hb hby at_82) rfl rfl ?_
      show Steps p.tables e below (T68.setTop (mkF m 84 #[.val (.int p1), .val (.int p2), .val (.int p3), .val (.int p4), .val (.int (2 : Int32)), .val (.int (p2.toInt8.toInt32)), .val (.int (p3.toInt8.toInt32)), .val (.int (p4.toInt8.toInt32)), .val (.ref b58), .val (.ref b69)] [(.ref b69)])) _
      refine XS.iconst X68.here hx rfl (hb hby at_84) ?_
      show Steps p.tables e below (T68.setTop (mkF m 85 #[.val (.int p1), .val (.int p2), .val (.int p3), .val (.int p4), .val (.int (2 : Int32)), .val (.int (p2.toInt8.toInt32)), .val (.int (p3.toInt8.toInt32)), .val (.int (p4.toInt8.toInt32)), .val (.ref b58), .val (.ref b69)] [(.int (0 : Int32)), (.ref b69)])) _
      exact kt
    obtain ⟨cl79, Ar79, -, Sz79, -, Hs79, -⟩ := id g72
    have hin79 : ¬ ((0 : Int32) < 0 ∨ cl79.slots.size ≤ ((0 : Int32)).toNatClampNeg) := inb_of Sz79 ⟨by decide, by decide⟩
    have pre80 : own_Go p e below S0 (T68.setTop (mkF m 101 #[.val (.int p1), .val (.int p2), .val (.int p3), .val (.int p4), .val (.int (2 : Int32)), .val (.int (p2.toInt8.toInt32)), .val (.int (p3.toInt8.toInt32)), .val (.int (p4.toInt8.toInt32)), .val (.ref b58), .val (.ref b69)] [(.int (1 : Int32)), (.ref b69)])) := by
      intro t kt
      refine pre78 t ?_
      refine X68.baloadBytes hx (j := (0 : Int32)) (v := (.int (11 : Int32))) Ar79.1 (State.isArrayOf_alike hZ.alike Ar79.2.1) Ar79.2.2 hin79 (Hs79.at hin79 rfl) (g := (mkF m 85 #[.val (.int p1), .val (.int p2), .val (.int p3), .val (.int p4), .val (.int (2 : Int32)), .val (.int (p2.toInt8.toInt32)), .val (.int (p3.toInt8.toInt32)), .val (.int (p4.toInt8.toInt32)), .val (.ref b58), .val (.ref b69)] [(.int (0 : Int32)), (.ref b69)])) rfl rfl (hb hby at_85) _ ?_
      show Steps p.tables e below (T68.setTop (mkF m 86 #[.val (.int p1), .val (.int p2), .val (.int p3), .val (.int p4), .val (.int (2 : Int32)), .val (.int (p2.toInt8.toInt32)), .val (.int (p3.toInt8.toInt32)), .val (.int (p4.toInt8.toInt32)), .val (.ref b58), .val (.ref b69)] [(.int (11 : Int32))])) _
      refine XS.bipush X68.here hx rfl (hb hby at_86) ?_
      show Steps p.tables e below (T68.setTop (mkF m 88 #[.val (.int p1), .val (.int p2), .val (.int p3), .val (.int p4), .val (.int (2 : Int32)), .val (.int (p2.toInt8.toInt32)), .val (.int (p3.toInt8.toInt32)), .val (.int (p4.toInt8.toInt32)), .val (.ref b58), .val (.ref b69)] [(.int (11 : Int32)), (.int (11 : Int32))])) _
      refine XS.icmpYes X68.here hx rfl (pc0 := 88) (pc' := 93) rfl (hb hby at_88) rfl (teq (by decide : (11 : Int32) = (11 : Int32))).1 (by decide) (by decide) ?_
      show Steps p.tables e below (T68.setTop (mkF m 93 #[.val (.int p1), .val (.int p2), .val (.int p3), .val (.int p4), .val (.int (2 : Int32)), .val (.int (p2.toInt8.toInt32)), .val (.int (p3.toInt8.toInt32)), .val (.int (p4.toInt8.toInt32)), .val (.ref b58), .val (.ref b69)] [])) _
      refine XS.iload X68.here hx rfl (hb hby at_93) rfl ?_
      show Steps p.tables e below (T68.setTop (mkF m 95 #[.val (.int p1), .val (.int p2), .val (.int p3), .val (.int p4), .val (.int (2 : Int32)), .val (.int (p2.toInt8.toInt32)), .val (.int (p3.toInt8.toInt32)), .val (.int (p4.toInt8.toInt32)), .val (.ref b58), .val (.ref b69)] [(.int (2 : Int32))])) _
      refine XS.ifNo X68.here hx rfl (hb hby at_95) rfl ((if0 _ _).trans (tlt (by decide : (0 : Int32) < (2 : Int32))).2.2.2) ?_
      show Steps p.tables e below (T68.setTop (mkF m 98 #[.val (.int p1), .val (.int p2), .val (.int p3), .val (.int p4), .val (.int (2 : Int32)), .val (.int (p2.toInt8.toInt32)), .val (.int (p3.toInt8.toInt32)), .val (.int (p4.toInt8.toInt32)), .val (.ref b58), .val (.ref b69)] [])) _
      refine XS.aload X68.here hx rfl (hb hby at_98) rfl rfl ?_
      show Steps p.tables e below (T68.setTop (mkF m 100 #[.val (.int p1), .val (.int p2), .val (.int p3), .val (.int p4), .val (.int (2 : Int32)), .val (.int (p2.toInt8.toInt32)), .val (.int (p3.toInt8.toInt32)), .val (.int (p4.toInt8.toInt32)), .val (.ref b58), .val (.ref b69)] [(.ref b69)])) _
      refine XS.iconst X68.here hx rfl (hb hby at_100) ?_
      show Steps p.tables e below (T68.setTop (mkF m 101 #[.val (.int p1), .val (.int p2), .val (.int p3), .val (.int p4), .val (.int (2 : Int32)), .val (.int (p2.toInt8.toInt32)), .val (.int (p3.toInt8.toInt32)), .val (.int (p4.toInt8.toInt32)), .val (.ref b58), .val (.ref b69)] [(.int (1 : Int32)), (.ref b69)])) _
      exact kt
    obtain ⟨cl81, Ar81, -, Sz81, -, Hs81, -⟩ := id g72
    have hin81 : ¬ ((1 : Int32) < 0 ∨ cl81.slots.size ≤ ((1 : Int32)).toNatClampNeg) := inb_of Sz81 ⟨by decide, by decide⟩
    have pre82 : own_Go p e below S0 (T68.setTop (mkF m 118 #[.val (.int p1), .val (.int p2), .val (.int p3), .val (.int p4), .val (.int (2 : Int32)), .val (.int (p2.toInt8.toInt32)), .val (.int (p3.toInt8.toInt32)), .val (.int (p4.toInt8.toInt32)), .val (.ref b58), .val (.ref b69)] [(.int (2 : Int32)), (.ref b69)])) := by
      intro t kt
      refine pre80 t ?_
      refine X68.baloadBytes hx (j := (1 : Int32)) (v := (.int (nar .byte (p2.toInt8.toInt32)))) Ar81.1 (State.isArrayOf_alike hZ.alike Ar81.2.1) Ar81.2.2 hin81 (Hs81.at hin81 rfl) (g := (mkF m 101 #[.val (.int p1), .val (.int p2), .val (.int p3), .val (.int p4), .val (.int (2 : Int32)), .val (.int (p2.toInt8.toInt32)), .val (.int (p3.toInt8.toInt32)), .val (.int (p4.toInt8.toInt32)), .val (.ref b58), .val (.ref b69)] [(.int (1 : Int32)), (.ref b69)])) rfl rfl (hb hby at_101) _ ?_
      show Steps p.tables e below (T68.setTop (mkF m 102 #[.val (.int p1), .val (.int p2), .val (.int p3), .val (.int p4), .val (.int (2 : Int32)), .val (.int (p2.toInt8.toInt32)), .val (.int (p3.toInt8.toInt32)), .val (.int (p4.toInt8.toInt32)), .val (.ref b58), .val (.ref b69)] [(.int (nar .byte (p2.toInt8.toInt32)))])) _
      refine XS.iload X68.here hx rfl (hb hby at_102) rfl ?_
      show Steps p.tables e below (T68.setTop (mkF m 104 #[.val (.int p1), .val (.int p2), .val (.int p3), .val (.int p4), .val (.int (2 : Int32)), .val (.int (p2.toInt8.toInt32)), .val (.int (p3.toInt8.toInt32)), .val (.int (p4.toInt8.toInt32)), .val (.ref b58), .val (.ref b69)] [(.int (p2.toInt8.toInt32)), (.int (nar .byte (p2.toInt8.toInt32)))])) _
      refine XS.icmpYes X68.here hx rfl (pc0 := 104) (pc' := 109) rfl (hb hby at_104) rfl (teq (own_i2b _)).1 (by decide) (by decide) ?_
      show Steps p.tables e below (T68.setTop (mkF m 109 #[.val (.int p1), .val (.int p2), .val (.int p3), .val (.int p4), .val (.int (2 : Int32)), .val (.int (p2.toInt8.toInt32)), .val (.int (p3.toInt8.toInt32)), .val (.int (p4.toInt8.toInt32)), .val (.ref b58), .val (.ref b69)] [])) _
      refine XS.iload X68.here hx rfl (hb hby at_109) rfl ?_
      show Steps p.tables e below (T68.setTop (mkF m 111 #[.val (.int p1), .val (.int p2), .val (.int p3), .val (.int p4), .val (.int (2 : Int32)), .val (.int (p2.toInt8.toInt32)), .val (.int (p3.toInt8.toInt32)), .val (.int (p4.toInt8.toInt32)), .val (.ref b58), .val (.ref b69)] [(.int (2 : Int32))])) _
      refine XS.iconst X68.here hx rfl (hb hby at_111) ?_
      show Steps p.tables e below (T68.setTop (mkF m 112 #[.val (.int p1), .val (.int p2), .val (.int p3), .val (.int p4), .val (.int (2 : Int32)), .val (.int (p2.toInt8.toInt32)), .val (.int (p3.toInt8.toInt32)), .val (.int (p4.toInt8.toInt32)), .val (.ref b58), .val (.ref b69)] [(.int (1 : Int32)), (.int (2 : Int32))])) _
      refine XS.icmpNo X68.here hx rfl (hb hby at_112) rfl (tlt (by decide : (1 : Int32) < (2 : Int32))).2.2.2 ?_
      show Steps p.tables e below (T68.setTop (mkF m 115 #[.val (.int p1), .val (.int p2), .val (.int p3), .val (.int p4), .val (.int (2 : Int32)), .val (.int (p2.toInt8.toInt32)), .val (.int (p3.toInt8.toInt32)), .val (.int (p4.toInt8.toInt32)), .val (.ref b58), .val (.ref b69)] [])) _
      refine XS.aload X68.here hx rfl (hb hby at_115) rfl rfl ?_
      show Steps p.tables e below (T68.setTop (mkF m 117 #[.val (.int p1), .val (.int p2), .val (.int p3), .val (.int p4), .val (.int (2 : Int32)), .val (.int (p2.toInt8.toInt32)), .val (.int (p3.toInt8.toInt32)), .val (.int (p4.toInt8.toInt32)), .val (.ref b58), .val (.ref b69)] [(.ref b69)])) _
      refine XS.iconst X68.here hx rfl (hb hby at_117) ?_
      show Steps p.tables e below (T68.setTop (mkF m 118 #[.val (.int p1), .val (.int p2), .val (.int p3), .val (.int p4), .val (.int (2 : Int32)), .val (.int (p2.toInt8.toInt32)), .val (.int (p3.toInt8.toInt32)), .val (.int (p4.toInt8.toInt32)), .val (.ref b58), .val (.ref b69)] [(.int (2 : Int32)), (.ref b69)])) _
      exact kt
    obtain ⟨cl83, Ar83, -, Sz83, -, Hs83, -⟩ := id g72
    have hin83 : ¬ ((2 : Int32) < 0 ∨ cl83.slots.size ≤ ((2 : Int32)).toNatClampNeg) := inb_of Sz83 ⟨by decide, by decide⟩
    have pre84 : own_Go p e below S0 (T68.setTop (mkF m 149 #[.val (.int p1), .val (.int p2), .val (.int p3), .val (.int p4), .val (.int (2 : Int32)), .val (.int (p2.toInt8.toInt32)), .val (.int (p3.toInt8.toInt32)), .val (.int (p4.toInt8.toInt32)), .val (.ref b58), .val (.ref b69)] [(.int (3 : Int32)), (.ref b69)])) := by
      intro t kt
      refine pre82 t ?_
      refine X68.baloadBytes hx (j := (2 : Int32)) (v := (.int (nar .byte (p3.toInt8.toInt32)))) Ar83.1 (State.isArrayOf_alike hZ.alike Ar83.2.1) Ar83.2.2 hin83 (Hs83.at hin83 rfl) (g := (mkF m 118 #[.val (.int p1), .val (.int p2), .val (.int p3), .val (.int p4), .val (.int (2 : Int32)), .val (.int (p2.toInt8.toInt32)), .val (.int (p3.toInt8.toInt32)), .val (.int (p4.toInt8.toInt32)), .val (.ref b58), .val (.ref b69)] [(.int (2 : Int32)), (.ref b69)])) rfl rfl (hb hby at_118) _ ?_
      show Steps p.tables e below (T68.setTop (mkF m 119 #[.val (.int p1), .val (.int p2), .val (.int p3), .val (.int p4), .val (.int (2 : Int32)), .val (.int (p2.toInt8.toInt32)), .val (.int (p3.toInt8.toInt32)), .val (.int (p4.toInt8.toInt32)), .val (.ref b58), .val (.ref b69)] [(.int (nar .byte (p3.toInt8.toInt32)))])) _
      refine XS.iload X68.here hx rfl (hb hby at_119) rfl ?_
      show Steps p.tables e below (T68.setTop (mkF m 121 #[.val (.int p1), .val (.int p2), .val (.int p3), .val (.int p4), .val (.int (2 : Int32)), .val (.int (p2.toInt8.toInt32)), .val (.int (p3.toInt8.toInt32)), .val (.int (p4.toInt8.toInt32)), .val (.ref b58), .val (.ref b69)] [(.int (p3.toInt8.toInt32)), (.int (nar .byte (p3.toInt8.toInt32)))])) _
      refine XS.icmpYes X68.here hx rfl (pc0 := 121) (pc' := 126) rfl (hb hby at_121) rfl (teq (own_i2b _)).1 (by decide) (by decide) ?_
      show Steps p.tables e below (T68.setTop (mkF m 126 #[.val (.int p1), .val (.int p2), .val (.int p3), .val (.int p4), .val (.int (2 : Int32)), .val (.int (p2.toInt8.toInt32)), .val (.int (p3.toInt8.toInt32)), .val (.int (p4.toInt8.toInt32)), .val (.ref b58), .val (.ref b69)] [])) _
      refine XS.iload X68.here hx rfl (hb hby at_126) rfl ?_
      show Steps p.tables e below (T68.setTop (mkF m 128 #[.val (.int p1), .val (.int p2), .val (.int p3), .val (.int p4), .val (.int (2 : Int32)), .val (.int (p2.toInt8.toInt32)), .val (.int (p3.toInt8.toInt32)), .val (.int (p4.toInt8.toInt32)), .val (.ref b58), .val (.ref b69)] [(.int (2 : Int32))])) _
      refine XS.iconst X68.here hx rfl (hb hby at_128) ?_
      show Steps p.tables e below (T68.setTop (mkF m 129 #[.val (.int p1), .val (.int p2), .val (.int p3), .val (.int p4), .val (.int (2 : Int32)), .val (.int (p2.toInt8.toInt32)), .val (.int (p3.toInt8.toInt32)), .val (.int (p4.toInt8.toInt32)), .val (.ref b58), .val (.ref b69)] [(.int (2 : Int32)), (.int (2 : Int32))])) _
      refine XS.icmpYes X68.here hx rfl (pc0 := 129) (pc' := 143) rfl (hb hby at_129) rfl (flt (by decide : ¬ ((2 : Int32) < (2 : Int32)))).2.2.2 (by decide) (by decide) ?_
      show Steps p.tables e below (T68.setTop (mkF m 143 #[.val (.int p1), .val (.int p2), .val (.int p3), .val (.int p4), .val (.int (2 : Int32)), .val (.int (p2.toInt8.toInt32)), .val (.int (p3.toInt8.toInt32)), .val (.int (p4.toInt8.toInt32)), .val (.ref b58), .val (.ref b69)] [])) _
      refine XS.aload X68.here hx rfl (hb hby at_143) rfl rfl ?_
      show Steps p.tables e below (T68.setTop (mkF m 145 #[.val (.int p1), .val (.int p2), .val (.int p3), .val (.int p4), .val (.int (2 : Int32)), .val (.int (p2.toInt8.toInt32)), .val (.int (p3.toInt8.toInt32)), .val (.int (p4.toInt8.toInt32)), .val (.ref b58), .val (.ref b69)] [(.ref b69)])) _
      refine XS.iload X68.here hx rfl (hb hby at_145) rfl ?_
      show Steps p.tables e below (T68.setTop (mkF m 147 #[.val (.int p1), .val (.int p2), .val (.int p3), .val (.int p4), .val (.int (2 : Int32)), .val (.int (p2.toInt8.toInt32)), .val (.int (p3.toInt8.toInt32)), .val (.int (p4.toInt8.toInt32)), .val (.ref b58), .val (.ref b69)] [(.int (2 : Int32)), (.ref b69)])) _
      refine XS.iconst X68.here hx rfl (hb hby at_147) ?_
      show Steps p.tables e below (T68.setTop (mkF m 148 #[.val (.int p1), .val (.int p2), .val (.int p3), .val (.int p4), .val (.int (2 : Int32)), .val (.int (p2.toInt8.toInt32)), .val (.int (p3.toInt8.toInt32)), .val (.int (p4.toInt8.toInt32)), .val (.ref b58), .val (.ref b69)] [(.int (1 : Int32)), (.int (2 : Int32)), (.ref b69)])) _
      refine XS.iadd X68.here hx rfl (hb hby at_148) rfl ?_
      show Steps p.tables e below (T68.setTop (mkF m 149 #[.val (.int p1), .val (.int p2), .val (.int p3), .val (.int p4), .val (.int (2 : Int32)), .val (.int (p2.toInt8.toInt32)), .val (.int (p3.toInt8.toInt32)), .val (.int (p4.toInt8.toInt32)), .val (.ref b58), .val (.ref b69)] [(.int (3 : Int32)), (.ref b69)])) _
      exact kt
    obtain ⟨cl85, Ar85, -, Sz85, -, Hs85, -⟩ := id g72
    have hin85 : ¬ ((3 : Int32) < 0 ∨ cl85.slots.size ≤ ((3 : Int32)).toNatClampNeg) := inb_of Sz85 ⟨by decide, by decide⟩
    have pre86 : own_Go p e below S0 (T68.setTop (mkF m 163 #[.val (.int p1), .val (.int p2), .val (.int p3), .val (.int p4), .val (.int (2 : Int32)), .val (.int (p2.toInt8.toInt32)), .val (.int (p3.toInt8.toInt32)), .val (.int (p4.toInt8.toInt32)), .val (.ref b58), .val (.ref b69)] [(.int (4 : Int32)), (.ref b69)])) := by
      intro t kt
      refine pre84 t ?_
      refine X68.baloadBytes hx (j := (3 : Int32)) (v := (.int (28 : Int32))) Ar85.1 (State.isArrayOf_alike hZ.alike Ar85.2.1) Ar85.2.2 hin85 (Hs85.at hin85 rfl) (g := (mkF m 149 #[.val (.int p1), .val (.int p2), .val (.int p3), .val (.int p4), .val (.int (2 : Int32)), .val (.int (p2.toInt8.toInt32)), .val (.int (p3.toInt8.toInt32)), .val (.int (p4.toInt8.toInt32)), .val (.ref b58), .val (.ref b69)] [(.int (3 : Int32)), (.ref b69)])) rfl rfl (hb hby at_149) _ ?_
      show Steps p.tables e below (T68.setTop (mkF m 150 #[.val (.int p1), .val (.int p2), .val (.int p3), .val (.int p4), .val (.int (2 : Int32)), .val (.int (p2.toInt8.toInt32)), .val (.int (p3.toInt8.toInt32)), .val (.int (p4.toInt8.toInt32)), .val (.ref b58), .val (.ref b69)] [(.int (28 : Int32))])) _
      refine XS.bipush X68.here hx rfl (hb hby at_150) ?_
      show Steps p.tables e below (T68.setTop (mkF m 152 #[.val (.int p1), .val (.int p2), .val (.int p3), .val (.int p4), .val (.int (2 : Int32)), .val (.int (p2.toInt8.toInt32)), .val (.int (p3.toInt8.toInt32)), .val (.int (p4.toInt8.toInt32)), .val (.ref b58), .val (.ref b69)] [(.int (28 : Int32)), (.int (28 : Int32))])) _
      refine XS.icmpYes X68.here hx rfl (pc0 := 152) (pc' := 157) rfl (hb hby at_152) rfl (teq (by decide : (28 : Int32) = (28 : Int32))).1 (by decide) (by decide) ?_
      show Steps p.tables e below (T68.setTop (mkF m 157 #[.val (.int p1), .val (.int p2), .val (.int p3), .val (.int p4), .val (.int (2 : Int32)), .val (.int (p2.toInt8.toInt32)), .val (.int (p3.toInt8.toInt32)), .val (.int (p4.toInt8.toInt32)), .val (.ref b58), .val (.ref b69)] [])) _
      refine XS.aload X68.here hx rfl (hb hby at_157) rfl rfl ?_
      show Steps p.tables e below (T68.setTop (mkF m 159 #[.val (.int p1), .val (.int p2), .val (.int p3), .val (.int p4), .val (.int (2 : Int32)), .val (.int (p2.toInt8.toInt32)), .val (.int (p3.toInt8.toInt32)), .val (.int (p4.toInt8.toInt32)), .val (.ref b58), .val (.ref b69)] [(.ref b69)])) _
      refine XS.iload X68.here hx rfl (hb hby at_159) rfl ?_
      show Steps p.tables e below (T68.setTop (mkF m 161 #[.val (.int p1), .val (.int p2), .val (.int p3), .val (.int p4), .val (.int (2 : Int32)), .val (.int (p2.toInt8.toInt32)), .val (.int (p3.toInt8.toInt32)), .val (.int (p4.toInt8.toInt32)), .val (.ref b58), .val (.ref b69)] [(.int (2 : Int32)), (.ref b69)])) _
      refine XS.iconst X68.here hx rfl (hb hby at_161) ?_
      show Steps p.tables e below (T68.setTop (mkF m 162 #[.val (.int p1), .val (.int p2), .val (.int p3), .val (.int p4), .val (.int (2 : Int32)), .val (.int (p2.toInt8.toInt32)), .val (.int (p3.toInt8.toInt32)), .val (.int (p4.toInt8.toInt32)), .val (.ref b58), .val (.ref b69)] [(.int (2 : Int32)), (.int (2 : Int32)), (.ref b69)])) _
      refine XS.iadd X68.here hx rfl (hb hby at_162) rfl ?_
      show Steps p.tables e below (T68.setTop (mkF m 163 #[.val (.int p1), .val (.int p2), .val (.int p3), .val (.int p4), .val (.int (2 : Int32)), .val (.int (p2.toInt8.toInt32)), .val (.int (p3.toInt8.toInt32)), .val (.int (p4.toInt8.toInt32)), .val (.ref b58), .val (.ref b69)] [(.int (4 : Int32)), (.ref b69)])) _
      exact kt
    obtain ⟨cl87, Ar87, -, Sz87, -, Hs87, -⟩ := id g72
    have hin87 : ¬ ((4 : Int32) < 0 ∨ cl87.slots.size ≤ ((4 : Int32)).toNatClampNeg) := inb_of Sz87 ⟨by decide, by decide⟩
    have pre88 : own_Go p e below S0 (T68.setTop (mkF m 179 #[.val (.int p1), .val (.int p2), .val (.int p3), .val (.int p4), .val (.int (2 : Int32)), .val (.int (p2.toInt8.toInt32)), .val (.int (p3.toInt8.toInt32)), .val (.int (p4.toInt8.toInt32)), .val (.ref b58), .val (.ref b69)] [(.int (0 : Int32)), (.ref b58)])) := by
      intro t kt
      refine pre86 t ?_
      refine X68.baloadBytes hx (j := (4 : Int32)) (v := (.int (13 : Int32))) Ar87.1 (State.isArrayOf_alike hZ.alike Ar87.2.1) Ar87.2.2 hin87 (Hs87.at hin87 rfl) (g := (mkF m 163 #[.val (.int p1), .val (.int p2), .val (.int p3), .val (.int p4), .val (.int (2 : Int32)), .val (.int (p2.toInt8.toInt32)), .val (.int (p3.toInt8.toInt32)), .val (.int (p4.toInt8.toInt32)), .val (.ref b58), .val (.ref b69)] [(.int (4 : Int32)), (.ref b69)])) rfl rfl (hb hby at_163) _ ?_
      show Steps p.tables e below (T68.setTop (mkF m 164 #[.val (.int p1), .val (.int p2), .val (.int p3), .val (.int p4), .val (.int (2 : Int32)), .val (.int (p2.toInt8.toInt32)), .val (.int (p3.toInt8.toInt32)), .val (.int (p4.toInt8.toInt32)), .val (.ref b58), .val (.ref b69)] [(.int (13 : Int32))])) _
      refine XS.bipush X68.here hx rfl (hb hby at_164) ?_
      show Steps p.tables e below (T68.setTop (mkF m 166 #[.val (.int p1), .val (.int p2), .val (.int p3), .val (.int p4), .val (.int (2 : Int32)), .val (.int (p2.toInt8.toInt32)), .val (.int (p3.toInt8.toInt32)), .val (.int (p4.toInt8.toInt32)), .val (.ref b58), .val (.ref b69)] [(.int (13 : Int32)), (.int (13 : Int32))])) _
      refine XS.icmpYes X68.here hx rfl (pc0 := 166) (pc' := 171) rfl (hb hby at_166) rfl (teq (by decide : (13 : Int32) = (13 : Int32))).1 (by decide) (by decide) ?_
      show Steps p.tables e below (T68.setTop (mkF m 171 #[.val (.int p1), .val (.int p2), .val (.int p3), .val (.int p4), .val (.int (2 : Int32)), .val (.int (p2.toInt8.toInt32)), .val (.int (p3.toInt8.toInt32)), .val (.int (p4.toInt8.toInt32)), .val (.ref b58), .val (.ref b69)] [])) _
      refine XS.iload X68.here hx rfl (hb hby at_171) rfl ?_
      show Steps p.tables e below (T68.setTop (mkF m 173 #[.val (.int p1), .val (.int p2), .val (.int p3), .val (.int p4), .val (.int (2 : Int32)), .val (.int (p2.toInt8.toInt32)), .val (.int (p3.toInt8.toInt32)), .val (.int (p4.toInt8.toInt32)), .val (.ref b58), .val (.ref b69)] [(.int (2 : Int32))])) _
      refine XS.ifNo X68.here hx rfl (hb hby at_173) rfl ((if0 _ _).trans (tlt (by decide : (0 : Int32) < (2 : Int32))).2.2.2) ?_
      show Steps p.tables e below (T68.setTop (mkF m 176 #[.val (.int p1), .val (.int p2), .val (.int p3), .val (.int p4), .val (.int (2 : Int32)), .val (.int (p2.toInt8.toInt32)), .val (.int (p3.toInt8.toInt32)), .val (.int (p4.toInt8.toInt32)), .val (.ref b58), .val (.ref b69)] [])) _
      refine XS.aload X68.here hx rfl (hb hby at_176) rfl rfl ?_
      show Steps p.tables e below (T68.setTop (mkF m 178 #[.val (.int p1), .val (.int p2), .val (.int p3), .val (.int p4), .val (.int (2 : Int32)), .val (.int (p2.toInt8.toInt32)), .val (.int (p3.toInt8.toInt32)), .val (.int (p4.toInt8.toInt32)), .val (.ref b58), .val (.ref b69)] [(.ref b58)])) _
      refine XS.iconst X68.here hx rfl (hb hby at_178) ?_
      show Steps p.tables e below (T68.setTop (mkF m 179 #[.val (.int p1), .val (.int p2), .val (.int p3), .val (.int p4), .val (.int (2 : Int32)), .val (.int (p2.toInt8.toInt32)), .val (.int (p3.toInt8.toInt32)), .val (.int (p4.toInt8.toInt32)), .val (.ref b58), .val (.ref b69)] [(.int (0 : Int32)), (.ref b58)])) _
      exact kt
    have f89 : Arv Z T68.heap b58 k58 .byte (2 : Int32) [(.int (nar .byte (p2.toInt8.toInt32))), (.int (nar .byte (p3.toInt8.toInt32)))] (.int (0 : Int32)) := (V65.keep K68 nin0)
    obtain ⟨cl90, Ar90, -, Sz90, -, Hs90, -⟩ := id f89
    have hin90 : ¬ ((0 : Int32) < 0 ∨ cl90.slots.size ≤ ((0 : Int32)).toNatClampNeg) := inb_of Sz90 ⟨by decide, by decide⟩
    have pre91 : own_Go p e below S0 (T68.setTop (mkF m 196 #[.val (.int p1), .val (.int p2), .val (.int p3), .val (.int p4), .val (.int (2 : Int32)), .val (.int (p2.toInt8.toInt32)), .val (.int (p3.toInt8.toInt32)), .val (.int (p4.toInt8.toInt32)), .val (.ref b58), .val (.ref b69)] [(.int (1 : Int32)), (.ref b58)])) := by
      intro t kt
      refine pre88 t ?_
      refine X68.baloadBytes hx (j := (0 : Int32)) (v := (.int (nar .byte (p2.toInt8.toInt32)))) Ar90.1 (State.isArrayOf_alike hZ.alike Ar90.2.1) Ar90.2.2 hin90 (Hs90.at hin90 rfl) (g := (mkF m 179 #[.val (.int p1), .val (.int p2), .val (.int p3), .val (.int p4), .val (.int (2 : Int32)), .val (.int (p2.toInt8.toInt32)), .val (.int (p3.toInt8.toInt32)), .val (.int (p4.toInt8.toInt32)), .val (.ref b58), .val (.ref b69)] [(.int (0 : Int32)), (.ref b58)])) rfl rfl (hb hby at_179) _ ?_
      show Steps p.tables e below (T68.setTop (mkF m 180 #[.val (.int p1), .val (.int p2), .val (.int p3), .val (.int p4), .val (.int (2 : Int32)), .val (.int (p2.toInt8.toInt32)), .val (.int (p3.toInt8.toInt32)), .val (.int (p4.toInt8.toInt32)), .val (.ref b58), .val (.ref b69)] [(.int (nar .byte (p2.toInt8.toInt32)))])) _
      refine XS.iload X68.here hx rfl (hb hby at_180) rfl ?_
      show Steps p.tables e below (T68.setTop (mkF m 182 #[.val (.int p1), .val (.int p2), .val (.int p3), .val (.int p4), .val (.int (2 : Int32)), .val (.int (p2.toInt8.toInt32)), .val (.int (p3.toInt8.toInt32)), .val (.int (p4.toInt8.toInt32)), .val (.ref b58), .val (.ref b69)] [(.int (p2.toInt8.toInt32)), (.int (nar .byte (p2.toInt8.toInt32)))])) _
      refine XS.icmpYes X68.here hx rfl (pc0 := 182) (pc' := 187) rfl (hb hby at_182) rfl (teq (own_i2b _)).1 (by decide) (by decide) ?_
      show Steps p.tables e below (T68.setTop (mkF m 187 #[.val (.int p1), .val (.int p2), .val (.int p3), .val (.int p4), .val (.int (2 : Int32)), .val (.int (p2.toInt8.toInt32)), .val (.int (p3.toInt8.toInt32)), .val (.int (p4.toInt8.toInt32)), .val (.ref b58), .val (.ref b69)] [])) _
      refine XS.iload X68.here hx rfl (hb hby at_187) rfl ?_
      show Steps p.tables e below (T68.setTop (mkF m 189 #[.val (.int p1), .val (.int p2), .val (.int p3), .val (.int p4), .val (.int (2 : Int32)), .val (.int (p2.toInt8.toInt32)), .val (.int (p3.toInt8.toInt32)), .val (.int (p4.toInt8.toInt32)), .val (.ref b58), .val (.ref b69)] [(.int (2 : Int32))])) _
      refine XS.iconst X68.here hx rfl (hb hby at_189) ?_
      show Steps p.tables e below (T68.setTop (mkF m 190 #[.val (.int p1), .val (.int p2), .val (.int p3), .val (.int p4), .val (.int (2 : Int32)), .val (.int (p2.toInt8.toInt32)), .val (.int (p3.toInt8.toInt32)), .val (.int (p4.toInt8.toInt32)), .val (.ref b58), .val (.ref b69)] [(.int (1 : Int32)), (.int (2 : Int32))])) _
      refine XS.icmpNo X68.here hx rfl (hb hby at_190) rfl (tlt (by decide : (1 : Int32) < (2 : Int32))).2.2.2 ?_
      show Steps p.tables e below (T68.setTop (mkF m 193 #[.val (.int p1), .val (.int p2), .val (.int p3), .val (.int p4), .val (.int (2 : Int32)), .val (.int (p2.toInt8.toInt32)), .val (.int (p3.toInt8.toInt32)), .val (.int (p4.toInt8.toInt32)), .val (.ref b58), .val (.ref b69)] [])) _
      refine XS.aload X68.here hx rfl (hb hby at_193) rfl rfl ?_
      show Steps p.tables e below (T68.setTop (mkF m 195 #[.val (.int p1), .val (.int p2), .val (.int p3), .val (.int p4), .val (.int (2 : Int32)), .val (.int (p2.toInt8.toInt32)), .val (.int (p3.toInt8.toInt32)), .val (.int (p4.toInt8.toInt32)), .val (.ref b58), .val (.ref b69)] [(.ref b58)])) _
      refine XS.iconst X68.here hx rfl (hb hby at_195) ?_
      show Steps p.tables e below (T68.setTop (mkF m 196 #[.val (.int p1), .val (.int p2), .val (.int p3), .val (.int p4), .val (.int (2 : Int32)), .val (.int (p2.toInt8.toInt32)), .val (.int (p3.toInt8.toInt32)), .val (.int (p4.toInt8.toInt32)), .val (.ref b58), .val (.ref b69)] [(.int (1 : Int32)), (.ref b58)])) _
      exact kt
    obtain ⟨cl92, Ar92, -, Sz92, -, Hs92, -⟩ := id f89
    have hin92 : ¬ ((1 : Int32) < 0 ∨ cl92.slots.size ≤ ((1 : Int32)).toNatClampNeg) := inb_of Sz92 ⟨by decide, by decide⟩
    have pre93 : own_Go p e below S0 (T68.setTop (mkF m 222 #[.val (.int p1), .val (.int p2), .val (.int p3), .val (.int p4), .val (.int (2 : Int32)), .val (.int (p2.toInt8.toInt32)), .val (.int (p3.toInt8.toInt32)), .val (.int (p4.toInt8.toInt32)), .val (.ref b58), .val (.ref b69)] [(.int (1 : Int32))])) := by
      intro t kt
      refine pre91 t ?_
      refine X68.baloadBytes hx (j := (1 : Int32)) (v := (.int (nar .byte (p3.toInt8.toInt32)))) Ar92.1 (State.isArrayOf_alike hZ.alike Ar92.2.1) Ar92.2.2 hin92 (Hs92.at hin92 rfl) (g := (mkF m 196 #[.val (.int p1), .val (.int p2), .val (.int p3), .val (.int p4), .val (.int (2 : Int32)), .val (.int (p2.toInt8.toInt32)), .val (.int (p3.toInt8.toInt32)), .val (.int (p4.toInt8.toInt32)), .val (.ref b58), .val (.ref b69)] [(.int (1 : Int32)), (.ref b58)])) rfl rfl (hb hby at_196) _ ?_
      show Steps p.tables e below (T68.setTop (mkF m 197 #[.val (.int p1), .val (.int p2), .val (.int p3), .val (.int p4), .val (.int (2 : Int32)), .val (.int (p2.toInt8.toInt32)), .val (.int (p3.toInt8.toInt32)), .val (.int (p4.toInt8.toInt32)), .val (.ref b58), .val (.ref b69)] [(.int (nar .byte (p3.toInt8.toInt32)))])) _
      refine XS.iload X68.here hx rfl (hb hby at_197) rfl ?_
      show Steps p.tables e below (T68.setTop (mkF m 199 #[.val (.int p1), .val (.int p2), .val (.int p3), .val (.int p4), .val (.int (2 : Int32)), .val (.int (p2.toInt8.toInt32)), .val (.int (p3.toInt8.toInt32)), .val (.int (p4.toInt8.toInt32)), .val (.ref b58), .val (.ref b69)] [(.int (p3.toInt8.toInt32)), (.int (nar .byte (p3.toInt8.toInt32)))])) _
      refine XS.icmpYes X68.here hx rfl (pc0 := 199) (pc' := 204) rfl (hb hby at_199) rfl (teq (own_i2b _)).1 (by decide) (by decide) ?_
      show Steps p.tables e below (T68.setTop (mkF m 204 #[.val (.int p1), .val (.int p2), .val (.int p3), .val (.int p4), .val (.int (2 : Int32)), .val (.int (p2.toInt8.toInt32)), .val (.int (p3.toInt8.toInt32)), .val (.int (p4.toInt8.toInt32)), .val (.ref b58), .val (.ref b69)] [])) _
      refine XS.iload X68.here hx rfl (hb hby at_204) rfl ?_
      show Steps p.tables e below (T68.setTop (mkF m 206 #[.val (.int p1), .val (.int p2), .val (.int p3), .val (.int p4), .val (.int (2 : Int32)), .val (.int (p2.toInt8.toInt32)), .val (.int (p3.toInt8.toInt32)), .val (.int (p4.toInt8.toInt32)), .val (.ref b58), .val (.ref b69)] [(.int (2 : Int32))])) _
      refine XS.iconst X68.here hx rfl (hb hby at_206) ?_
      show Steps p.tables e below (T68.setTop (mkF m 207 #[.val (.int p1), .val (.int p2), .val (.int p3), .val (.int p4), .val (.int (2 : Int32)), .val (.int (p2.toInt8.toInt32)), .val (.int (p3.toInt8.toInt32)), .val (.int (p4.toInt8.toInt32)), .val (.ref b58), .val (.ref b69)] [(.int (2 : Int32)), (.int (2 : Int32))])) _
      refine XS.icmpYes X68.here hx rfl (pc0 := 207) (pc' := 221) rfl (hb hby at_207) rfl (flt (by decide : ¬ ((2 : Int32) < (2 : Int32)))).2.2.2 (by decide) (by decide) ?_
      show Steps p.tables e below (T68.setTop (mkF m 221 #[.val (.int p1), .val (.int p2), .val (.int p3), .val (.int p4), .val (.int (2 : Int32)), .val (.int (p2.toInt8.toInt32)), .val (.int (p3.toInt8.toInt32)), .val (.int (p4.toInt8.toInt32)), .val (.ref b58), .val (.ref b69)] [])) _
      refine XS.iconst X68.here hx rfl (hb hby at_221) ?_
      show Steps p.tables e below (T68.setTop (mkF m 222 #[.val (.int p1), .val (.int p2), .val (.int p3), .val (.int p4), .val (.int (2 : Int32)), .val (.int (p2.toInt8.toInt32)), .val (.int (p3.toInt8.toInt32)), .val (.int (p4.toInt8.toInt32)), .val (.ref b58), .val (.ref b69)] [(.int (1 : Int32))])) _
      exact kt
    obtain ⟨fs, hr, hrun, hended, hW, hsame⟩ := X68.leave (v := some (.int (1 : Int32))) (fun h => by rw [Bd.returns] at h; cases h)
    refine ⟨_, _, fin _ (pre93 _ ?_), hrun, hended, _, _, rfl, ?_, ⟨_, rfl⟩, hW, hsame.mono (by decide) (by decide)⟩
    · exact retN X68 hx (t := .boolean) Bd.returns (by simp) (hb hby at_222) hr
    · show Q0 Z p1 p2 p3 p4 h0 n0 _ T68.heap _
      exact ⟨rfl, N68⟩
  · have pre94 : own_Go p e below S0 (s₁.setTop (mkF m 3 #[.val (.int p1), .val (.int p2), .val (.int p3), .val (.int p4), .unset, .unset, .unset, .unset, .unset, .unset] [(.int (3 : Int32))])) := by
      intro t kt
      refine pre1 t ?_
      rw [hk]
      exact kt
    have pre95 : own_Go p e below S0 (s₁.setTop (mkF m 19 #[.val (.int p1), .val (.int p2), .val (.int p3), .val (.int p4), .val (.int (3 : Int32)), .val (.int (p2.toInt8.toInt32)), .val (.int (p3.toInt8.toInt32)), .val (.int (p4.toInt8.toInt32)), .unset, .unset] [(.int (3 : Int32))])) := by
      intro t kt
      refine pre94 t ?_
      refine XS.istore X0.here hx rfl (hb hby at_3) rfl (l' := #[.val (.int p1), .val (.int p2), .val (.int p3), .val (.int p4), .val (.int (3 : Int32)), .unset, .unset, .unset, .unset, .unset]) rfl ?_
      show Steps p.tables e below (s₁.setTop (mkF m 5 #[.val (.int p1), .val (.int p2), .val (.int p3), .val (.int p4), .val (.int (3 : Int32)), .unset, .unset, .unset, .unset, .unset] [])) _
      refine XS.iloadN X0.here hx rfl (hb hby at_5) rfl ?_
      show Steps p.tables e below (s₁.setTop (mkF m 6 #[.val (.int p1), .val (.int p2), .val (.int p3), .val (.int p4), .val (.int (3 : Int32)), .unset, .unset, .unset, .unset, .unset] [(.int p2)])) _
      refine XS.i2b X0.here hx rfl (hb hby at_6) rfl ?_
      show Steps p.tables e below (s₁.setTop (mkF m 7 #[.val (.int p1), .val (.int p2), .val (.int p3), .val (.int p4), .val (.int (3 : Int32)), .unset, .unset, .unset, .unset, .unset] [(.int (p2.toInt8.toInt32))])) _
      refine XS.istore X0.here hx rfl (hb hby at_7) rfl (l' := #[.val (.int p1), .val (.int p2), .val (.int p3), .val (.int p4), .val (.int (3 : Int32)), .val (.int (p2.toInt8.toInt32)), .unset, .unset, .unset, .unset]) rfl ?_
      show Steps p.tables e below (s₁.setTop (mkF m 9 #[.val (.int p1), .val (.int p2), .val (.int p3), .val (.int p4), .val (.int (3 : Int32)), .val (.int (p2.toInt8.toInt32)), .unset, .unset, .unset, .unset] [])) _
      refine XS.iloadN X0.here hx rfl (hb hby at_9) rfl ?_
      show Steps p.tables e below (s₁.setTop (mkF m 10 #[.val (.int p1), .val (.int p2), .val (.int p3), .val (.int p4), .val (.int (3 : Int32)), .val (.int (p2.toInt8.toInt32)), .unset, .unset, .unset, .unset] [(.int p3)])) _
      refine XS.i2b X0.here hx rfl (hb hby at_10) rfl ?_
      show Steps p.tables e below (s₁.setTop (mkF m 11 #[.val (.int p1), .val (.int p2), .val (.int p3), .val (.int p4), .val (.int (3 : Int32)), .val (.int (p2.toInt8.toInt32)), .unset, .unset, .unset, .unset] [(.int (p3.toInt8.toInt32))])) _
      refine XS.istore X0.here hx rfl (hb hby at_11) rfl (l' := #[.val (.int p1), .val (.int p2), .val (.int p3), .val (.int p4), .val (.int (3 : Int32)), .val (.int (p2.toInt8.toInt32)), .val (.int (p3.toInt8.toInt32)), .unset, .unset, .unset]) rfl ?_
      show Steps p.tables e below (s₁.setTop (mkF m 13 #[.val (.int p1), .val (.int p2), .val (.int p3), .val (.int p4), .val (.int (3 : Int32)), .val (.int (p2.toInt8.toInt32)), .val (.int (p3.toInt8.toInt32)), .unset, .unset, .unset] [])) _
      refine XS.iloadN X0.here hx rfl (hb hby at_13) rfl ?_
      show Steps p.tables e below (s₁.setTop (mkF m 14 #[.val (.int p1), .val (.int p2), .val (.int p3), .val (.int p4), .val (.int (3 : Int32)), .val (.int (p2.toInt8.toInt32)), .val (.int (p3.toInt8.toInt32)), .unset, .unset, .unset] [(.int p4)])) _
      refine XS.i2b X0.here hx rfl (hb hby at_14) rfl ?_
      show Steps p.tables e below (s₁.setTop (mkF m 15 #[.val (.int p1), .val (.int p2), .val (.int p3), .val (.int p4), .val (.int (3 : Int32)), .val (.int (p2.toInt8.toInt32)), .val (.int (p3.toInt8.toInt32)), .unset, .unset, .unset] [(.int (p4.toInt8.toInt32))])) _
      refine XS.istore X0.here hx rfl (hb hby at_15) rfl (l' := #[.val (.int p1), .val (.int p2), .val (.int p3), .val (.int p4), .val (.int (3 : Int32)), .val (.int (p2.toInt8.toInt32)), .val (.int (p3.toInt8.toInt32)), .val (.int (p4.toInt8.toInt32)), .unset, .unset]) rfl ?_
      show Steps p.tables e below (s₁.setTop (mkF m 17 #[.val (.int p1), .val (.int p2), .val (.int p3), .val (.int p4), .val (.int (3 : Int32)), .val (.int (p2.toInt8.toInt32)), .val (.int (p3.toInt8.toInt32)), .val (.int (p4.toInt8.toInt32)), .unset, .unset] [])) _
      refine XS.iload X0.here hx rfl (hb hby at_17) rfl ?_
      show Steps p.tables e below (s₁.setTop (mkF m 19 #[.val (.int p1), .val (.int p2), .val (.int p3), .val (.int p4), .val (.int (3 : Int32)), .val (.int (p2.toInt8.toInt32)), .val (.int (p3.toInt8.toInt32)), .val (.int (p4.toInt8.toInt32)), .unset, .unset] [(.int (3 : Int32))])) _
      exact kt
    obtain ⟨T96, h96, k96, X96, e96, E96, A96, st96⟩ := newP X0 hx hZ (hw _ (own_w 0 rfl)) e0 (g := (mkF m 19 #[.val (.int p1), .val (.int p2), .val (.int p3), .val (.int p4), .val (.int (3 : Int32)), .val (.int (p2.toInt8.toInt32)), .val (.int (p3.toInt8.toInt32)), .val (.int (p4.toInt8.toInt32)), .unset, .unset] [(.int (3 : Int32))])) rfl (hb hby at_19) rfl (by decide) (cap := 3) (by decide) (by decide) (by decide) (by decide)
    obtain ⟨b96, g96⟩ : ∃ z, z = h0.size := ⟨_, rfl⟩
    rw [← g96] at A96 st96
    have ge97 : n0 ≤ b96 := Nat.le_trans Z0 (Nat.le_of_eq g96.symm)
    have zs98 : n0 ≤ h96.size := Nat.le_trans Z0 E96.1
    have V96 : Arv Z h96 b96 k96 .byte (3 : Int32) [(.int (0 : Int32)), (.int (0 : Int32)), (.int (0 : Int32))] (.int (0 : Int32)) := (Arv.new A96 (by decide)).pad (pad_rep [] (.int (0 : Int32)) 3)
    have pre99 : own_Go p e below S0 (T96.setTop (mkF m 33 #[.val (.int p1), .val (.int p2), .val (.int p3), .val (.int p4), .val (.int (3 : Int32)), .val (.int (p2.toInt8.toInt32)), .val (.int (p3.toInt8.toInt32)), .val (.int (p4.toInt8.toInt32)), .val (.ref b96), .unset] [(.int (p2.toInt8.toInt32)), (.int (0 : Int32)), (.ref b96)])) := by
      intro t kt
      refine pre95 t ?_
      refine st96 _ ?_
      show Steps p.tables e below (T96.setTop (mkF m 21 #[.val (.int p1), .val (.int p2), .val (.int p3), .val (.int p4), .val (.int (3 : Int32)), .val (.int (p2.toInt8.toInt32)), .val (.int (p3.toInt8.toInt32)), .val (.int (p4.toInt8.toInt32)), .unset, .unset] [(.ref b96)])) _
      refine XS.astore X96.here hx rfl (hb hby at_21) rfl rfl (l' := #[.val (.int p1), .val (.int p2), .val (.int p3), .val (.int p4), .val (.int (3 : Int32)), .val (.int (p2.toInt8.toInt32)), .val (.int (p3.toInt8.toInt32)), .val (.int (p4.toInt8.toInt32)), .val (.ref b96), .unset]) rfl ?_
      show Steps p.tables e below (T96.setTop (mkF m 23 #[.val (.int p1), .val (.int p2), .val (.int p3), .val (.int p4), .val (.int (3 : Int32)), .val (.int (p2.toInt8.toInt32)), .val (.int (p3.toInt8.toInt32)), .val (.int (p4.toInt8.toInt32)), .val (.ref b96), .unset] [])) _
      refine XS.iload X96.here hx rfl (hb hby at_23) rfl ?_
      show Steps p.tables e below (T96.setTop (mkF m 25 #[.val (.int p1), .val (.int p2), .val (.int p3), .val (.int p4), .val (.int (3 : Int32)), .val (.int (p2.toInt8.toInt32)), .val (.int (p3.toInt8.toInt32)), .val (.int (p4.toInt8.toInt32)), .val (.ref b96), .unset] [(.int (3 : Int32))])) _
      refine XS.ifNo X96.here hx rfl (hb hby at_25) rfl ((if0 _ _).trans (tlt (by decide : (0 : Int32) < (3 : Int32))).2.2.2) ?_
      show Steps p.tables e below (T96.setTop (mkF m 28 #[.val (.int p1), .val (.int p2), .val (.int p3), .val (.int p4), .val (.int (3 : Int32)), .val (.int (p2.toInt8.toInt32)), .val (.int (p3.toInt8.toInt32)), .val (.int (p4.toInt8.toInt32)), .val (.ref b96), .unset] [])) _
      refine XS.aload X96.here hx rfl (hb hby at_28) rfl rfl ?_
      show Steps p.tables e below (T96.setTop (mkF m 30 #[.val (.int p1), .val (.int p2), .val (.int p3), .val (.int p4), .val (.int (3 : Int32)), .val (.int (p2.toInt8.toInt32)), .val (.int (p3.toInt8.toInt32)), .val (.int (p4.toInt8.toInt32)), .val (.ref b96), .unset] [(.ref b96)])) _
      refine XS.iconst X96.here hx rfl (hb hby at_30) ?_
      show Steps p.tables e below (T96.setTop (mkF m 31 #[.val (.int p1), .val (.int p2), .val (.int p3), .val (.int p4), .val (.int (3 : Int32)), .val (.int (p2.toInt8.toInt32)), .val (.int (p3.toInt8.toInt32)), .val (.int (p4.toInt8.toInt32)), .val (.ref b96), .unset] [(.int (0 : Int32)), (.ref b96)])) _
      refine XS.iload X96.here hx rfl (hb hby at_31) rfl ?_
      show Steps p.tables e below (T96.setTop (mkF m 33 #[.val (.int p1), .val (.int p2), .val (.int p3), .val (.int p4), .val (.int (3 : Int32)), .val (.int (p2.toInt8.toInt32)), .val (.int (p3.toInt8.toInt32)), .val (.int (p4.toInt8.toInt32)), .val (.ref b96), .unset] [(.int (p2.toInt8.toInt32)), (.int (0 : Int32)), (.ref b96)])) _
      exact kt
    obtain ⟨cl100, Ar100, q100, Sz100, Ng100, Hs100, Gt100⟩ := id V96
    have hin100 : ¬ ((0 : Int32) < 0 ∨ cl100.slots.size ≤ ((0 : Int32)).toNatClampNeg) := inb_of Sz100 ⟨by decide, by decide⟩
    obtain ⟨T100, h100, X100, e100, W100, st100⟩ := stB X96 hx hZ e96 Ar100 (j := (0 : Int32)) hin100 (g := (mkF m 33 #[.val (.int p1), .val (.int p2), .val (.int p3), .val (.int p4), .val (.int (3 : Int32)), .val (.int (p2.toInt8.toInt32)), .val (.int (p3.toInt8.toInt32)), .val (.int (p4.toInt8.toInt32)), .val (.ref b96), .unset] [(.int (p2.toInt8.toInt32)), (.int (0 : Int32)), (.ref b96)])) rfl rfl (hb hby at_33)
    have N100 := Fr.snoc X100 N0 ge97
    have zs101 : n0 ≤ h100.size := Nat.le_trans zs98 (Keep.of_wr W100).1
    have V100 : Arv Z h100 b96 k96 .byte (3 : Int32) [(.int (nar .byte (p2.toInt8.toInt32))), (.int (0 : Int32)), (.int (0 : Int32))] (.int (0 : Int32)) := Arv.set Ar100 q100 Sz100 Ng100 Hs100 Gt100 (fits_nar_byte _) W100 0 rfl (Nat.le_of_ble_eq_true rfl)
    have pre102 : own_Go p e below S0 (T100.setTop (mkF m 45 #[.val (.int p1), .val (.int p2), .val (.int p3), .val (.int p4), .val (.int (3 : Int32)), .val (.int (p2.toInt8.toInt32)), .val (.int (p3.toInt8.toInt32)), .val (.int (p4.toInt8.toInt32)), .val (.ref b96), .unset] [(.int (p3.toInt8.toInt32)), (.int (1 : Int32)), (.ref b96)])) := by
      intro t kt
      refine pre99 t ?_
      refine st100 _ ?_
      show Steps p.tables e below (T100.setTop (mkF m 34 #[.val (.int p1), .val (.int p2), .val (.int p3), .val (.int p4), .val (.int (3 : Int32)), .val (.int (p2.toInt8.toInt32)), .val (.int (p3.toInt8.toInt32)), .val (.int (p4.toInt8.toInt32)), .val (.ref b96), .unset] [])) _
      refine XS.iload X100.here hx rfl (hb hby at_34) rfl ?_
      show Steps p.tables e below (T100.setTop (mkF m 36 #[.val (.int p1), .val (.int p2), .val (.int p3), .val (.int p4), .val (.int (3 : Int32)), .val (.int (p2.toInt8.toInt32)), .val (.int (p3.toInt8.toInt32)), .val (.int (p4.toInt8.toInt32)), .val (.ref b96), .unset] [(.int (3 : Int32))])) _
      refine XS.iconst X100.here hx rfl (hb hby at_36) ?_
      show Steps p.tables e below (T100.setTop (mkF m 37 #[.val (.int p1), .val (.int p2), .val (.int p3), .val (.int p4), .val (.int (3 : Int32)), .val (.int (p2.toInt8.toInt32)), .val (.int (p3.toInt8.toInt32)), .val (.int (p4.toInt8.toInt32)), .val (.ref b96), .unset] [(.int (1 : Int32)), (.int (3 : Int32))])) _
      refine XS.icmpNo X100.here hx rfl (hb hby at_37) rfl (tlt (by decide : (1 : Int32) < (3 : Int32))).2.2.2 ?_
      show Steps p.tables e below (T100.setTop (mkF m 40 #[.val (.int p1), .val (.int p2), .val (.int p3), .val (.int p4), .val (.int (3 : Int32)), .val (.int (p2.toInt8.toInt32)), .val (.int (p3.toInt8.toInt32)), .val (.int (p4.toInt8.toInt32)), .val (.ref b96), .unset] [])) _
      refine XS.aload X100.here hx rfl (hb hby at_40) rfl rfl ?_
      show Steps p.tables e below (T100.setTop (mkF m 42 #[.val (.int p1), .val (.int p2), .val (.int p3), .val (.int p4), .val (.int (3 : Int32)), .val (.int (p2.toInt8.toInt32)), .val (.int (p3.toInt8.toInt32)), .val (.int (p4.toInt8.toInt32)), .val (.ref b96), .unset] [(.ref b96)])) _
      refine XS.iconst X100.here hx rfl (hb hby at_42) ?_
      show Steps p.tables e below (T100.setTop (mkF m 43 #[.val (.int p1), .val (.int p2), .val (.int p3), .val (.int p4), .val (.int (3 : Int32)), .val (.int (p2.toInt8.toInt32)), .val (.int (p3.toInt8.toInt32)), .val (.int (p4.toInt8.toInt32)), .val (.ref b96), .unset] [(.int (1 : Int32)), (.ref b96)])) _
      refine XS.iload X100.here hx rfl (hb hby at_43) rfl ?_
      show Steps p.tables e below (T100.setTop (mkF m 45 #[.val (.int p1), .val (.int p2), .val (.int p3), .val (.int p4), .val (.int (3 : Int32)), .val (.int (p2.toInt8.toInt32)), .val (.int (p3.toInt8.toInt32)), .val (.int (p4.toInt8.toInt32)), .val (.ref b96), .unset] [(.int (p3.toInt8.toInt32)), (.int (1 : Int32)), (.ref b96)])) _
      exact kt
    obtain ⟨cl103, Ar103, q103, Sz103, Ng103, Hs103, Gt103⟩ := id V100
    have hin103 : ¬ ((1 : Int32) < 0 ∨ cl103.slots.size ≤ ((1 : Int32)).toNatClampNeg) := inb_of Sz103 ⟨by decide, by decide⟩
    obtain ⟨T103, h103, X103, e103, W103, st103⟩ := stB X100 hx hZ e100 Ar103 (j := (1 : Int32)) hin103 (g := (mkF m 45 #[.val (.int p1), .val (.int p2), .val (.int p3), .val (.int p4), .val (.int (3 : Int32)), .val (.int (p2.toInt8.toInt32)), .val (.int (p3.toInt8.toInt32)), .val (.int (p4.toInt8.toInt32)), .val (.ref b96), .unset] [(.int (p3.toInt8.toInt32)), (.int (1 : Int32)), (.ref b96)])) rfl rfl (hb hby at_45)
    have N103 := Fr.snoc X103 N100 ge97
    have zs104 : n0 ≤ h103.size := Nat.le_trans zs101 (Keep.of_wr W103).1
    have V103 : Arv Z h103 b96 k96 .byte (3 : Int32) [(.int (nar .byte (p2.toInt8.toInt32))), (.int (nar .byte (p3.toInt8.toInt32))), (.int (0 : Int32))] (.int (0 : Int32)) := Arv.set Ar103 q103 Sz103 Ng103 Hs103 Gt103 (fits_nar_byte _) W103 1 rfl (Nat.le_of_ble_eq_true rfl)
    have pre105 : own_Go p e below S0 (T103.setTop (mkF m 57 #[.val (.int p1), .val (.int p2), .val (.int p3), .val (.int p4), .val (.int (3 : Int32)), .val (.int (p2.toInt8.toInt32)), .val (.int (p3.toInt8.toInt32)), .val (.int (p4.toInt8.toInt32)), .val (.ref b96), .unset] [(.int (p4.toInt8.toInt32)), (.int (2 : Int32)), (.ref b96)])) := by
      intro t kt
      refine pre102 t ?_
      refine st103 _ ?_
      show Steps p.tables e below (T103.setTop (mkF m 46 #[.val (.int p1), .val (.int p2), .val (.int p3), .val (.int p4), .val (.int (3 : Int32)), .val (.int (p2.toInt8.toInt32)), .val (.int (p3.toInt8.toInt32)), .val (.int (p4.toInt8.toInt32)), .val (.ref b96), .unset] [])) _
      refine XS.iload X103.here hx rfl (hb hby at_46) rfl ?_
      show Steps p.tables e below (T103.setTop (mkF m 48 #[.val (.int p1), .val (.int p2), .val (.int p3), .val (.int p4), .val (.int (3 : Int32)), .val (.int (p2.toInt8.toInt32)), .val (.int (p3.toInt8.toInt32)), .val (.int (p4.toInt8.toInt32)), .val (.ref b96), .unset] [(.int (3 : Int32))])) _
      refine XS.iconst X103.here hx rfl (hb hby at_48) ?_
      show Steps p.tables e below (T103.setTop (mkF m 49 #[.val (.int p1), .val (.int p2), .val (.int p3), .val (.int p4), .val (.int (3 : Int32)), .val (.int (p2.toInt8.toInt32)), .val (.int (p3.toInt8.toInt32)), .val (.int (p4.toInt8.toInt32)), .val (.ref b96), .unset] [(.int (2 : Int32)), (.int (3 : Int32))])) _
      refine XS.icmpNo X103.here hx rfl (hb hby at_49) rfl (tlt (by decide : (2 : Int32) < (3 : Int32))).2.2.2 ?_
      show Steps p.tables e below (T103.setTop (mkF m 52 #[.val (.int p1), .val (.int p2), .val (.int p3), .val (.int p4), .val (.int (3 : Int32)), .val (.int (p2.toInt8.toInt32)), .val (.int (p3.toInt8.toInt32)), .val (.int (p4.toInt8.toInt32)), .val (.ref b96), .unset] [])) _
      refine XS.aload X103.here hx rfl (hb hby at_52) rfl rfl ?_
      show Steps p.tables e below (T103.setTop (mkF m 54 #[.val (.int p1), .val (.int p2), .val (.int p3), .val (.int p4), .val (.int (3 : Int32)), .val (.int (p2.toInt8.toInt32)), .val (.int (p3.toInt8.toInt32)), .val (.int (p4.toInt8.toInt32)), .val (.ref b96), .unset] [(.ref b96)])) _
      refine XS.iconst X103.here hx rfl (hb hby at_54) ?_
      show Steps p.tables e below (T103.setTop (mkF m 55 #[.val (.int p1), .val (.int p2), .val (.int p3), .val (.int p4), .val (.int (3 : Int32)), .val (.int (p2.toInt8.toInt32)), .val (.int (p3.toInt8.toInt32)), .val (.int (p4.toInt8.toInt32)), .val (.ref b96), .unset] [(.int (2 : Int32)), (.ref b96)])) _
      refine XS.iload X103.here hx rfl (hb hby at_55) rfl ?_
      show Steps p.tables e below (T103.setTop (mkF m 57 #[.val (.int p1), .val (.int p2), .val (.int p3), .val (.int p4), .val (.int (3 : Int32)), .val (.int (p2.toInt8.toInt32)), .val (.int (p3.toInt8.toInt32)), .val (.int (p4.toInt8.toInt32)), .val (.ref b96), .unset] [(.int (p4.toInt8.toInt32)), (.int (2 : Int32)), (.ref b96)])) _
      exact kt
    obtain ⟨cl106, Ar106, q106, Sz106, Ng106, Hs106, Gt106⟩ := id V103
    have hin106 : ¬ ((2 : Int32) < 0 ∨ cl106.slots.size ≤ ((2 : Int32)).toNatClampNeg) := inb_of Sz106 ⟨by decide, by decide⟩
    obtain ⟨T106, h106, X106, e106, W106, st106⟩ := stB X103 hx hZ e103 Ar106 (j := (2 : Int32)) hin106 (g := (mkF m 57 #[.val (.int p1), .val (.int p2), .val (.int p3), .val (.int p4), .val (.int (3 : Int32)), .val (.int (p2.toInt8.toInt32)), .val (.int (p3.toInt8.toInt32)), .val (.int (p4.toInt8.toInt32)), .val (.ref b96), .unset] [(.int (p4.toInt8.toInt32)), (.int (2 : Int32)), (.ref b96)])) rfl rfl (hb hby at_57)
    have N106 := Fr.snoc X106 N103 ge97
    have zs107 : n0 ≤ h106.size := Nat.le_trans zs104 (Keep.of_wr W106).1
    have V106 : Arv Z h106 b96 k96 .byte (3 : Int32) [(.int (nar .byte (p2.toInt8.toInt32))), (.int (nar .byte (p3.toInt8.toInt32))), (.int (nar .byte (p4.toInt8.toInt32)))] (.int (0 : Int32)) := Arv.set Ar106 q106 Sz106 Ng106 Hs106 Gt106 (fits_nar_byte _) W106 2 rfl (Nat.le_of_ble_eq_true rfl)
    have pre108 : own_Go p e below S0 (T106.setTop (mkF m 60 #[.val (.int p1), .val (.int p2), .val (.int p3), .val (.int p4), .val (.int (3 : Int32)), .val (.int (p2.toInt8.toInt32)), .val (.int (p3.toInt8.toInt32)), .val (.int (p4.toInt8.toInt32)), .val (.ref b96), .unset] [(.ref b96)])) := by
      intro t kt
      refine pre105 t ?_
      refine st106 _ ?_
      show Steps p.tables e below (T106.setTop (mkF m 58 #[.val (.int p1), .val (.int p2), .val (.int p3), .val (.int p4), .val (.int (3 : Int32)), .val (.int (p2.toInt8.toInt32)), .val (.int (p3.toInt8.toInt32)), .val (.int (p4.toInt8.toInt32)), .val (.ref b96), .unset] [])) _
      refine XS.aload X106.here hx rfl (hb hby at_58) rfl rfl ?_
      show Steps p.tables e below (T106.setTop (mkF m 60 #[.val (.int p1), .val (.int p2), .val (.int p3), .val (.int p4), .val (.int (3 : Int32)), .val (.int (p2.toInt8.toInt32)), .val (.int (p3.toInt8.toInt32)), .val (.int (p4.toInt8.toInt32)), .val (.ref b96), .unset] [(.ref b96)])) _
      exact kt
    obtain ⟨_, _, ⟨T109, L109, k109, n109⟩, -, X109, ⟨Lc109, hQ109, l109, y109, z109⟩, st109⟩ := Jvm.LawKit.callS X106 hx (y := (⟨"com/example/refertario/refertario/hl7/MllpServer", "frame", "([B)[B"⟩ : MethodName)) hown (mvT hZ (hw _ (own_w 1 rfl))) (mvT hZ (hw _ (own_w 2 rfl))) (mvT hZ (hw _ (own_w 3 rfl))) (mvT hZ (hw _ (own_w 4 rfl))) (by decide) (backOf (W := 0) (rm1n3 l Z a0 hw [] b96 k96 (.int (nar .byte (p2.toInt8.toInt32))) (.int (nar .byte (p3.toInt8.toInt32))) (.int (nar .byte (p4.toInt8.toInt32))) h106 n0 zs107 V106) hZ (hw _ (own_w 4 rfl)) (hw _ (own_w 3 rfl)) (by decide) (by decide)) (g := (mkF m 60 #[.val (.int p1), .val (.int p2), .val (.int p3), .val (.int p4), .val (.int (3 : Int32)), .val (.int (p2.toInt8.toInt32)), .val (.int (p3.toInt8.toInt32)), .val (.int (p4.toInt8.toInt32)), .val (.ref b96), .unset] [(.ref b96)])) rfl (by rw [hml]; rfl) (argsL := [(.ref b96)]) (rest := []) (lenOf pd_0 rfl) rfl (by show 2 * 0 + _ ≤ _; exact Nat.le_of_eq rfl) (hb hby at_60) (fun _ _ => ⟨rfl, e106, (by decide : 1 + 1 ≤ _), (by decide : 3 + 6 ≤ _)⟩)
    dsimp only [Pt.U, Pt.locs, Pt.cells, Pt.slots] at X109 l109 y109 z109 st109 hQ109
    subst l109 y109 z109
    obtain ⟨b110, kb111, rfl, Nq109, K109, g112, g113⟩ := hQ109
    have N109 := Fr.app N106 Nq109
    have ne114 : b96 ≠ b110 := Nat.ne_of_lt (Nat.lt_of_lt_of_le V106.lt g112)
    have ge115 : n0 ≤ b110 := Nat.le_trans zs107 g112
    have zs116 : n0 ≤ T109.heap.size := Nat.le_trans zs107 K109.1
    have pre117 : own_Go p e below S0 (T109.setTop (mkF m 72 #[.val (.int p1), .val (.int p2), .val (.int p3), .val (.int p4), .val (.int (3 : Int32)), .val (.int (p2.toInt8.toInt32)), .val (.int (p3.toInt8.toInt32)), .val (.int (p4.toInt8.toInt32)), .val (.ref b96), .val (.ref b110)] [(.ref b110)])) := by
      intro t kt
      refine pre108 t ?_
      refine st109 _ ?_
      show Steps p.tables e below (T109.setTop (mkF m 63 #[.val (.int p1), .val (.int p2), .val (.int p3), .val (.int p4), .val (.int (3 : Int32)), .val (.int (p2.toInt8.toInt32)), .val (.int (p3.toInt8.toInt32)), .val (.int (p4.toInt8.toInt32)), .val (.ref b96), .unset] [(.ref b110)])) _
      refine XS.astore X109.here hx rfl (hb hby at_63) rfl rfl (l' := #[.val (.int p1), .val (.int p2), .val (.int p3), .val (.int p4), .val (.int (3 : Int32)), .val (.int (p2.toInt8.toInt32)), .val (.int (p3.toInt8.toInt32)), .val (.int (p4.toInt8.toInt32)), .val (.ref b96), .val (.ref b110)]) rfl ?_
      show Steps p.tables e below (T109.setTop (mkF m 65 #[.val (.int p1), .val (.int p2), .val (.int p3), .val (.int p4), .val (.int (3 : Int32)), .val (.int (p2.toInt8.toInt32)), .val (.int (p3.toInt8.toInt32)), .val (.int (p4.toInt8.toInt32)), .val (.ref b96), .val (.ref b110)] [])) _
      refine XS.aload X109.here hx rfl (hb hby at_65) rfl rfl ?_
      show Steps p.tables e below (T109.setTop (mkF m 67 #[.val (.int p1), .val (.int p2), .val (.int p3), .val (.int p4), .val (.int (3 : Int32)), .val (.int (p2.toInt8.toInt32)), .val (.int (p3.toInt8.toInt32)), .val (.int (p4.toInt8.toInt32)), .val (.ref b96), .val (.ref b110)] [(.ref b110)])) _
      refine XS.ifnullNo X109.here hx rfl (hb hby at_67) rfl ?_
      show Steps p.tables e below (T109.setTop (mkF m 70 #[.val (.int p1), .val (.int p2), .val (.int p3), .val (.int p4), .val (.int (3 : Int32)), .val (.int (p2.toInt8.toInt32)), .val (.int (p3.toInt8.toInt32)), .val (.int (p4.toInt8.toInt32)), .val (.ref b96), .val (.ref b110)] [])) _
      refine XS.aload X109.here hx rfl (hb hby at_70) rfl rfl ?_
      show Steps p.tables e below (T109.setTop (mkF m 72 #[.val (.int p1), .val (.int p2), .val (.int p3), .val (.int p4), .val (.int (3 : Int32)), .val (.int (p2.toInt8.toInt32)), .val (.int (p3.toInt8.toInt32)), .val (.int (p4.toInt8.toInt32)), .val (.ref b96), .val (.ref b110)] [(.ref b110)])) _
      exact kt
    obtain ⟨cl118, Ar118, -, Sz118, Ng118, -, -⟩ := id g113
    have pre119 : own_Go p e below S0 (T109.setTop (mkF m 85 #[.val (.int p1), .val (.int p2), .val (.int p3), .val (.int p4), .val (.int (3 : Int32)), .val (.int (p2.toInt8.toInt32)), .val (.int (p3.toInt8.toInt32)), .val (.int (p4.toInt8.toInt32)), .val (.ref b96), .val (.ref b110)] [(.int (0 : Int32)), (.ref b110)])) := by
      intro t kt
      refine pre117 t ?_
      refine X109.arraylength hx Ar118.1 (State.isArrayOf_alike hZ.alike Ar118.2.1) (g := (mkF m 72 #[.val (.int p1), .val (.int p2), .val (.int p3), .val (.int p4), .val (.int (3 : Int32)), .val (.int (p2.toInt8.toInt32)), .val (.int (p3.toInt8.toInt32)), .val (.int (p4.toInt8.toInt32)), .val (.ref b96), .val (.ref b110)] [(.ref b110)])) rfl rfl (hb hby at_72) _ ?_
      rw [len_of Sz118 Ng118]
      show Steps p.tables e below (T109.setTop (mkF m 73 #[.val (.int p1), .val (.int p2), .val (.int p3), .val (.int p4), .val (.int (3 : Int32)), .val (.int (p2.toInt8.toInt32)), .val (.int (p3.toInt8.toInt32)), .val (.int (p4.toInt8.toInt32)), .val (.ref b96), .val (.ref b110)] [(.int (6 : Int32))])) _
      refine XS.iload X109.here hx rfl (hb hby at_73) rfl ?_
      show Steps p.tables e below (T109.setTop (mkF m 75 #[.val (.int p1), .val (.int p2), .val (.int p3), .val (.int p4), .val (.int (3 : Int32)), .val (.int (p2.toInt8.toInt32)), .val (.int (p3.toInt8.toInt32)), .val (.int (p4.toInt8.toInt32)), .val (.ref b96), .val (.ref b110)] [(.int (3 : Int32)), (.int (6 : Int32))])) _
      refine XS.iconst X109.here hx rfl (hb hby at_75) ?_
      show Steps p.tables e below (T109.setTop (mkF m 76 #[.val (.int p1), .val (.int p2), .val (.int p3), .val (.int p4), .val (.int (3 : Int32)), .val (.int (p2.toInt8.toInt32)), .val (.int (p3.toInt8.toInt32)), .val (.int (p4.toInt8.toInt32)), .val (.ref b96), .val (.ref b110)] [(.int (3 : Int32)), (.int (3 : Int32)), (.int (6 : Int32))])) _
      refine XS.iadd X109.here hx rfl (hb hby at_76) rfl ?_
      show Steps p.tables e below (T109.setTop (mkF m 77 #[.val (.int p1), .val (.int p2), .val (.int p3), .val (.int p4), .val (.int (3 : Int32)), .val (.int (p2.toInt8.toInt32)), .val (.int (p3.toInt8.toInt32)), .val (.int (p4.toInt8.toInt32)), .val (.ref b96), .val (.ref b110)] [(.int (6 : Int32)), (.int (6 : Int32))])) _
      refine XS.icmpYes X109.here hx rfl (pc0 := 77) (pc' := 82) rfl (hb hby at_77) rfl (teq (by decide : (6 : Int32) = (6 : Int32))).1 (by decide) (by decide) ?_
      show Steps p.tables e below (T109.setTop (mkF m 82 #[.val (.int p1), .val (.int p2), .val (.int p3), .val (.int p4), .val (.int (3 : Int32)), .val (.int (p2.toInt8.toInt32)), .val (.int (p3.toInt8.toInt32)), .val (.int (p4.toInt8.toInt32)), .val (.ref b96), .val (.ref b110)] [])) _
      refine XS.aload X109.here hx rfl (hb hby at_82) rfl rfl ?_
      show Steps p.tables e below (T109.setTop (mkF m 84 #[.val (.int p1), .val (.int p2), .val (.int p3), .val (.int p4), .val (.int (3 : Int32)), .val (.int (p2.toInt8.toInt32)), .val (.int (p3.toInt8.toInt32)), .val (.int (p4.toInt8.toInt32)), .val (.ref b96), .val (.ref b110)] [(.ref b110)])) _
      refine XS.iconst X109.here hx rfl (hb hby at_84) ?_
      show Steps p.tables e below (T109.setTop (mkF m 85 #[.val (.int p1), .val (.int p2), .val (.int p3), .val (.int p4), .val (.int (3 : Int32)), .val (.int (p2.toInt8.toInt32)), .val (.int (p3.toInt8.toInt32)), .val (.int (p4.toInt8.toInt32)), .val (.ref b96), .val (.ref b110)] [(.int (0 : Int32)), (.ref b110)])) _
      exact kt
    obtain ⟨cl120, Ar120, -, Sz120, -, Hs120, -⟩ := id g113
    have hin120 : ¬ ((0 : Int32) < 0 ∨ cl120.slots.size ≤ ((0 : Int32)).toNatClampNeg) := inb_of Sz120 ⟨by decide, by decide⟩
    have pre121 : own_Go p e below S0 (T109.setTop (mkF m 101 #[.val (.int p1), .val (.int p2), .val (.int p3), .val (.int p4), .val (.int (3 : Int32)), .val (.int (p2.toInt8.toInt32)), .val (.int (p3.toInt8.toInt32)), .val (.int (p4.toInt8.toInt32)), .val (.ref b96), .val (.ref b110)] [(.int (1 : Int32)), (.ref b110)])) := by
      intro t kt
      refine pre119 t ?_
      refine X109.baloadBytes hx (j := (0 : Int32)) (v := (.int (11 : Int32))) Ar120.1 (State.isArrayOf_alike hZ.alike Ar120.2.1) Ar120.2.2 hin120 (Hs120.at hin120 rfl) (g := (mkF m 85 #[.val (.int p1), .val (.int p2), .val (.int p3), .val (.int p4), .val (.int (3 : Int32)), .val (.int (p2.toInt8.toInt32)), .val (.int (p3.toInt8.toInt32)), .val (.int (p4.toInt8.toInt32)), .val (.ref b96), .val (.ref b110)] [(.int (0 : Int32)), (.ref b110)])) rfl rfl (hb hby at_85) _ ?_
      show Steps p.tables e below (T109.setTop (mkF m 86 #[.val (.int p1), .val (.int p2), .val (.int p3), .val (.int p4), .val (.int (3 : Int32)), .val (.int (p2.toInt8.toInt32)), .val (.int (p3.toInt8.toInt32)), .val (.int (p4.toInt8.toInt32)), .val (.ref b96), .val (.ref b110)] [(.int (11 : Int32))])) _
      refine XS.bipush X109.here hx rfl (hb hby at_86) ?_
      show Steps p.tables e below (T109.setTop (mkF m 88 #[.val (.int p1), .val (.int p2), .val (.int p3), .val (.int p4), .val (.int (3 : Int32)), .val (.int (p2.toInt8.toInt32)), .val (.int (p3.toInt8.toInt32)), .val (.int (p4.toInt8.toInt32)), .val (.ref b96), .val (.ref b110)] [(.int (11 : Int32)), (.int (11 : Int32))])) _
      refine XS.icmpYes X109.here hx rfl (pc0 := 88) (pc' := 93) rfl (hb hby at_88) rfl (teq (by decide : (11 : Int32) = (11 : Int32))).1 (by decide) (by decide) ?_
      show Steps p.tables e below (T109.setTop (mkF m 93 #[.val (.int p1), .val (.int p2), .val (.int p3), .val (.int p4), .val (.int (3 : Int32)), .val (.int (p2.toInt8.toInt32)), .val (.int (p3.toInt8.toInt32)), .val (.int (p4.toInt8.toInt32)), .val (.ref b96), .val (.ref b110)] [])) _
      refine XS.iload X109.here hx rfl (hb hby at_93) rfl ?_
      show Steps p.tables e below (T109.setTop (mkF m 95 #[.val (.int p1), .val (.int p2), .val (.int p3), .val (.int p4), .val (.int (3 : Int32)), .val (.int (p2.toInt8.toInt32)), .val (.int (p3.toInt8.toInt32)), .val (.int (p4.toInt8.toInt32)), .val (.ref b96), .val (.ref b110)] [(.int (3 : Int32))])) _
      refine XS.ifNo X109.here hx rfl (hb hby at_95) rfl ((if0 _ _).trans (tlt (by decide : (0 : Int32) < (3 : Int32))).2.2.2) ?_
      show Steps p.tables e below (T109.setTop (mkF m 98 #[.val (.int p1), .val (.int p2), .val (.int p3), .val (.int p4), .val (.int (3 : Int32)), .val (.int (p2.toInt8.toInt32)), .val (.int (p3.toInt8.toInt32)), .val (.int (p4.toInt8.toInt32)), .val (.ref b96), .val (.ref b110)] [])) _
      refine XS.aload X109.here hx rfl (hb hby at_98) rfl rfl ?_
      show Steps p.tables e below (T109.setTop (mkF m 100 #[.val (.int p1), .val (.int p2), .val (.int p3), .val (.int p4), .val (.int (3 : Int32)), .val (.int (p2.toInt8.toInt32)), .val (.int (p3.toInt8.toInt32)), .val (.int (p4.toInt8.toInt32)), .val (.ref b96), .val (.ref b110)] [(.ref b110)])) _
      refine XS.iconst X109.here hx rfl (hb hby at_100) ?_
      show Steps p.tables e below (T109.setTop (mkF m 101 #[.val (.int p1), .val (.int p2), .val (.int p3), .val (.int p4), .val (.int (3 : Int32)), .val (.int (p2.toInt8.toInt32)), .val (.int (p3.toInt8.toInt32)), .val (.int (p4.toInt8.toInt32)), .val (.ref b96), .val (.ref b110)] [(.int (1 : Int32)), (.ref b110)])) _
      exact kt
    obtain ⟨cl122, Ar122, -, Sz122, -, Hs122, -⟩ := id g113
    have hin122 : ¬ ((1 : Int32) < 0 ∨ cl122.slots.size ≤ ((1 : Int32)).toNatClampNeg) := inb_of Sz122 ⟨by decide, by decide⟩
    have pre123 : own_Go p e below S0 (T109.setTop (mkF m 118 #[.val (.int p1), .val (.int p2), .val (.int p3), .val (.int p4), .val (.int (3 : Int32)), .val (.int (p2.toInt8.toInt32)), .val (.int (p3.toInt8.toInt32)), .val (.int (p4.toInt8.toInt32)), .val (.ref b96), .val (.ref b110)] [(.int (2 : Int32)), (.ref b110)])) := by
      intro t kt
      refine pre121 t ?_
      refine X109.baloadBytes hx (j := (1 : Int32)) (v := (.int (nar .byte (p2.toInt8.toInt32)))) Ar122.1 (State.isArrayOf_alike hZ.alike Ar122.2.1) Ar122.2.2 hin122 (Hs122.at hin122 rfl) (g := (mkF m 101 #[.val (.int p1), .val (.int p2), .val (.int p3), .val (.int p4), .val (.int (3 : Int32)), .val (.int (p2.toInt8.toInt32)), .val (.int (p3.toInt8.toInt32)), .val (.int (p4.toInt8.toInt32)), .val (.ref b96), .val (.ref b110)] [(.int (1 : Int32)), (.ref b110)])) rfl rfl (hb hby at_101) _ ?_
      show Steps p.tables e below (T109.setTop (mkF m 102 #[.val (.int p1), .val (.int p2), .val (.int p3), .val (.int p4), .val (.int (3 : Int32)), .val (.int (p2.toInt8.toInt32)), .val (.int (p3.toInt8.toInt32)), .val (.int (p4.toInt8.toInt32)), .val (.ref b96), .val (.ref b110)] [(.int (nar .byte (p2.toInt8.toInt32)))])) _
      refine XS.iload X109.here hx rfl (hb hby at_102) rfl ?_
      show Steps p.tables e below (T109.setTop (mkF m 104 #[.val (.int p1), .val (.int p2), .val (.int p3), .val (.int p4), .val (.int (3 : Int32)), .val (.int (p2.toInt8.toInt32)), .val (.int (p3.toInt8.toInt32)), .val (.int (p4.toInt8.toInt32)), .val (.ref b96), .val (.ref b110)] [(.int (p2.toInt8.toInt32)), (.int (nar .byte (p2.toInt8.toInt32)))])) _
      refine XS.icmpYes X109.here hx rfl (pc0 := 104) (pc' := 109) rfl (hb hby at_104) rfl (teq (own_i2b _)).1 (by decide) (by decide) ?_
      show Steps p.tables e below (T109.setTop (mkF m 109 #[.val (.int p1), .val (.int p2), .val (.int p3), .val (.int p4), .val (.int (3 : Int32)), .val (.int (p2.toInt8.toInt32)), .val (.int (p3.toInt8.toInt32)), .val (.int (p4.toInt8.toInt32)), .val (.ref b96), .val (.ref b110)] [])) _
      refine XS.iload X109.here hx rfl (hb hby at_109) rfl ?_
      show Steps p.tables e below (T109.setTop (mkF m 111 #[.val (.int p1), .val (.int p2), .val (.int p3), .val (.int p4), .val (.int (3 : Int32)), .val (.int (p2.toInt8.toInt32)), .val (.int (p3.toInt8.toInt32)), .val (.int (p4.toInt8.toInt32)), .val (.ref b96), .val (.ref b110)] [(.int (3 : Int32))])) _
      refine XS.iconst X109.here hx rfl (hb hby at_111) ?_
      show Steps p.tables e below (T109.setTop (mkF m 112 #[.val (.int p1), .val (.int p2), .val (.int p3), .val (.int p4), .val (.int (3 : Int32)), .val (.int (p2.toInt8.toInt32)), .val (.int (p3.toInt8.toInt32)), .val (.int (p4.toInt8.toInt32)), .val (.ref b96), .val (.ref b110)] [(.int (1 : Int32)), (.int (3 : Int32))])) _
      refine XS.icmpNo X109.here hx rfl (hb hby at_112) rfl (tlt (by decide : (1 : Int32) < (3 : Int32))).2.2.2 ?_
      show Steps p.tables e below (T109.setTop (mkF m 115 #[.val (.int p1), .val (.int p2), .val (.int p3), .val (.int p4), .val (.int (3 : Int32)), .val (.int (p2.toInt8.toInt32)), .val (.int (p3.toInt8.toInt32)), .val (.int (p4.toInt8.toInt32)), .val (.ref b96), .val (.ref b110)] [])) _
      refine XS.aload X109.here hx rfl (hb hby at_115) rfl rfl ?_
      show Steps p.tables e below (T109.setTop (mkF m 117 #[.val (.int p1), .val (.int p2), .val (.int p3), .val (.int p4), .val (.int (3 : Int32)), .val (.int (p2.toInt8.toInt32)), .val (.int (p3.toInt8.toInt32)), .val (.int (p4.toInt8.toInt32)), .val (.ref b96), .val (.ref b110)] [(.ref b110)])) _
      refine XS.iconst X109.here hx rfl (hb hby at_117) ?_
      show Steps p.tables e below (T109.setTop (mkF m 118 #[.val (.int p1), .val (.int p2), .val (.int p3), .val (.int p4), .val (.int (3 : Int32)), .val (.int (p2.toInt8.toInt32)), .val (.int (p3.toInt8.toInt32)), .val (.int (p4.toInt8.toInt32)), .val (.ref b96), .val (.ref b110)] [(.int (2 : Int32)), (.ref b110)])) _
      exact kt
    obtain ⟨cl124, Ar124, -, Sz124, -, Hs124, -⟩ := id g113
    have hin124 : ¬ ((2 : Int32) < 0 ∨ cl124.slots.size ≤ ((2 : Int32)).toNatClampNeg) := inb_of Sz124 ⟨by decide, by decide⟩
    have pre125 : own_Go p e below S0 (T109.setTop (mkF m 135 #[.val (.int p1), .val (.int p2), .val (.int p3), .val (.int p4), .val (.int (3 : Int32)), .val (.int (p2.toInt8.toInt32)), .val (.int (p3.toInt8.toInt32)), .val (.int (p4.toInt8.toInt32)), .val (.ref b96), .val (.ref b110)] [(.int (3 : Int32)), (.ref b110)])) := by
      intro t kt
      refine pre123 t ?_
      refine X109.baloadBytes hx (j := (2 : Int32)) (v := (.int (nar .byte (p3.toInt8.toInt32)))) Ar124.1 (State.isArrayOf_alike hZ.alike Ar124.2.1) Ar124.2.2 hin124 (Hs124.at hin124 rfl) (g := (mkF m 118 #[.val (.int p1), .val (.int p2), .val (.int p3), .val (.int p4), .val (.int (3 : Int32)), .val (.int (p2.toInt8.toInt32)), .val (.int (p3.toInt8.toInt32)), .val (.int (p4.toInt8.toInt32)), .val (.ref b96), .val (.ref b110)] [(.int (2 : Int32)), (.ref b110)])) rfl rfl (hb hby at_118) _ ?_
      show Steps p.tables e below (T109.setTop (mkF m 119 #[.val (.int p1), .val (.int p2), .val (.int p3), .val (.int p4), .val (.int (3 : Int32)), .val (.int (p2.toInt8.toInt32)), .val (.int (p3.toInt8.toInt32)), .val (.int (p4.toInt8.toInt32)), .val (.ref b96), .val (.ref b110)] [(.int (nar .byte (p3.toInt8.toInt32)))])) _
      refine XS.iload X109.here hx rfl (hb hby at_119) rfl ?_
      show Steps p.tables e below (T109.setTop (mkF m 121 #[.val (.int p1), .val (.int p2), .val (.int p3), .val (.int p4), .val (.int (3 : Int32)), .val (.int (p2.toInt8.toInt32)), .val (.int (p3.toInt8.toInt32)), .val (.int (p4.toInt8.toInt32)), .val (.ref b96), .val (.ref b110)] [(.int (p3.toInt8.toInt32)), (.int (nar .byte (p3.toInt8.toInt32)))])) _
      refine XS.icmpYes X109.here hx rfl (pc0 := 121) (pc' := 126) rfl (hb hby at_121) rfl (teq (own_i2b _)).1 (by decide) (by decide) ?_
      show Steps p.tables e below (T109.setTop (mkF m 126 #[.val (.int p1), .val (.int p2), .val (.int p3), .val (.int p4), .val (.int (3 : Int32)), .val (.int (p2.toInt8.toInt32)), .val (.int (p3.toInt8.toInt32)), .val (.int (p4.toInt8.toInt32)), .val (.ref b96), .val (.ref b110)] [])) _
      refine XS.iload X109.here hx rfl (hb hby at_126) rfl ?_
      show Steps p.tables e below (T109.setTop (mkF m 128 #[.val (.int p1), .val (.int p2), .val (.int p3), .val (.int p4), .val (.int (3 : Int32)), .val (.int (p2.toInt8.toInt32)), .val (.int (p3.toInt8.toInt32)), .val (.int (p4.toInt8.toInt32)), .val (.ref b96), .val (.ref b110)] [(.int (3 : Int32))])) _
      refine XS.iconst X109.here hx rfl (hb hby at_128) ?_
      show Steps p.tables e below (T109.setTop (mkF m 129 #[.val (.int p1), .val (.int p2), .val (.int p3), .val (.int p4), .val (.int (3 : Int32)), .val (.int (p2.toInt8.toInt32)), .val (.int (p3.toInt8.toInt32)), .val (.int (p4.toInt8.toInt32)), .val (.ref b96), .val (.ref b110)] [(.int (2 : Int32)), (.int (3 : Int32))])) _
      refine XS.icmpNo X109.here hx rfl (hb hby at_129) rfl (tlt (by decide : (2 : Int32) < (3 : Int32))).2.2.2 ?_
      show Steps p.tables e below (T109.setTop (mkF m 132 #[.val (.int p1), .val (.int p2), .val (.int p3), .val (.int p4), .val (.int (3 : Int32)), .val (.int (p2.toInt8.toInt32)), .val (.int (p3.toInt8.toInt32)), .val (.int (p4.toInt8.toInt32)), .val (.ref b96), .val (.ref b110)] [])) _
      refine XS.aload X109.here hx rfl (hb hby at_132) rfl rfl ?_
      show Steps p.tables e below (T109.setTop (mkF m 134 #[.val (.int p1), .val (.int p2), .val (.int p3), .val (.int p4), .val (.int (3 : Int32)), .val (.int (p2.toInt8.toInt32)), .val (.int (p3.toInt8.toInt32)), .val (.int (p4.toInt8.toInt32)), .val (.ref b96), .val (.ref b110)] [(.ref b110)])) _
      refine XS.iconst X109.here hx rfl (hb hby at_134) ?_
      show Steps p.tables e below (T109.setTop (mkF m 135 #[.val (.int p1), .val (.int p2), .val (.int p3), .val (.int p4), .val (.int (3 : Int32)), .val (.int (p2.toInt8.toInt32)), .val (.int (p3.toInt8.toInt32)), .val (.int (p4.toInt8.toInt32)), .val (.ref b96), .val (.ref b110)] [(.int (3 : Int32)), (.ref b110)])) _
      exact kt
    obtain ⟨cl126, Ar126, -, Sz126, -, Hs126, -⟩ := id g113
    have hin126 : ¬ ((3 : Int32) < 0 ∨ cl126.slots.size ≤ ((3 : Int32)).toNatClampNeg) := inb_of Sz126 ⟨by decide, by decide⟩
    have pre127 : own_Go p e below S0 (T109.setTop (mkF m 149 #[.val (.int p1), .val (.int p2), .val (.int p3), .val (.int p4), .val (.int (3 : Int32)), .val (.int (p2.toInt8.toInt32)), .val (.int (p3.toInt8.toInt32)), .val (.int (p4.toInt8.toInt32)), .val (.ref b96), .val (.ref b110)] [(.int (4 : Int32)), (.ref b110)])) := by
      intro t kt
      refine pre125 t ?_
      refine X109.baloadBytes hx (j := (3 : Int32)) (v := (.int (nar .byte (p4.toInt8.toInt32)))) Ar126.1 (State.isArrayOf_alike hZ.alike Ar126.2.1) Ar126.2.2 hin126 (Hs126.at hin126 rfl) (g := (mkF m 135 #[.val (.int p1), .val (.int p2), .val (.int p3), .val (.int p4), .val (.int (3 : Int32)), .val (.int (p2.toInt8.toInt32)), .val (.int (p3.toInt8.toInt32)), .val (.int (p4.toInt8.toInt32)), .val (.ref b96), .val (.ref b110)] [(.int (3 : Int32)), (.ref b110)])) rfl rfl (hb hby at_135) _ ?_
      show Steps p.tables e below (T109.setTop (mkF m 136 #[.val (.int p1), .val (.int p2), .val (.int p3), .val (.int p4), .val (.int (3 : Int32)), .val (.int (p2.toInt8.toInt32)), .val (.int (p3.toInt8.toInt32)), .val (.int (p4.toInt8.toInt32)), .val (.ref b96), .val (.ref b110)] [(.int (nar .byte (p4.toInt8.toInt32)))])) _
      refine XS.iload X109.here hx rfl (hb hby at_136) rfl ?_
      show Steps p.tables e below (T109.setTop (mkF m 138 #[.val (.int p1), .val (.int p2), .val (.int p3), .val (.int p4), .val (.int (3 : Int32)), .val (.int (p2.toInt8.toInt32)), .val (.int (p3.toInt8.toInt32)), .val (.int (p4.toInt8.toInt32)), .val (.ref b96), .val (.ref b110)] [(.int (p4.toInt8.toInt32)), (.int (nar .byte (p4.toInt8.toInt32)))])) _
      refine XS.icmpYes X109.here hx rfl (pc0 := 138) (pc' := 143) rfl (hb hby at_138) rfl (teq (own_i2b _)).1 (by decide) (by decide) ?_
      show Steps p.tables e below (T109.setTop (mkF m 143 #[.val (.int p1), .val (.int p2), .val (.int p3), .val (.int p4), .val (.int (3 : Int32)), .val (.int (p2.toInt8.toInt32)), .val (.int (p3.toInt8.toInt32)), .val (.int (p4.toInt8.toInt32)), .val (.ref b96), .val (.ref b110)] [])) _
      refine XS.aload X109.here hx rfl (hb hby at_143) rfl rfl ?_
      show Steps p.tables e below (T109.setTop (mkF m 145 #[.val (.int p1), .val (.int p2), .val (.int p3), .val (.int p4), .val (.int (3 : Int32)), .val (.int (p2.toInt8.toInt32)), .val (.int (p3.toInt8.toInt32)), .val (.int (p4.toInt8.toInt32)), .val (.ref b96), .val (.ref b110)] [(.ref b110)])) _
      refine XS.iload X109.here hx rfl (hb hby at_145) rfl ?_
      show Steps p.tables e below (T109.setTop (mkF m 147 #[.val (.int p1), .val (.int p2), .val (.int p3), .val (.int p4), .val (.int (3 : Int32)), .val (.int (p2.toInt8.toInt32)), .val (.int (p3.toInt8.toInt32)), .val (.int (p4.toInt8.toInt32)), .val (.ref b96), .val (.ref b110)] [(.int (3 : Int32)), (.ref b110)])) _
      refine XS.iconst X109.here hx rfl (hb hby at_147) ?_
      show Steps p.tables e below (T109.setTop (mkF m 148 #[.val (.int p1), .val (.int p2), .val (.int p3), .val (.int p4), .val (.int (3 : Int32)), .val (.int (p2.toInt8.toInt32)), .val (.int (p3.toInt8.toInt32)), .val (.int (p4.toInt8.toInt32)), .val (.ref b96), .val (.ref b110)] [(.int (1 : Int32)), (.int (3 : Int32)), (.ref b110)])) _
      refine XS.iadd X109.here hx rfl (hb hby at_148) rfl ?_
      show Steps p.tables e below (T109.setTop (mkF m 149 #[.val (.int p1), .val (.int p2), .val (.int p3), .val (.int p4), .val (.int (3 : Int32)), .val (.int (p2.toInt8.toInt32)), .val (.int (p3.toInt8.toInt32)), .val (.int (p4.toInt8.toInt32)), .val (.ref b96), .val (.ref b110)] [(.int (4 : Int32)), (.ref b110)])) _
      exact kt
    obtain ⟨cl128, Ar128, -, Sz128, -, Hs128, -⟩ := id g113
    have hin128 : ¬ ((4 : Int32) < 0 ∨ cl128.slots.size ≤ ((4 : Int32)).toNatClampNeg) := inb_of Sz128 ⟨by decide, by decide⟩
    have pre129 : own_Go p e below S0 (T109.setTop (mkF m 163 #[.val (.int p1), .val (.int p2), .val (.int p3), .val (.int p4), .val (.int (3 : Int32)), .val (.int (p2.toInt8.toInt32)), .val (.int (p3.toInt8.toInt32)), .val (.int (p4.toInt8.toInt32)), .val (.ref b96), .val (.ref b110)] [(.int (5 : Int32)), (.ref b110)])) := by
      intro t kt
      refine pre127 t ?_
      refine X109.baloadBytes hx (j := (4 : Int32)) (v := (.int (28 : Int32))) Ar128.1 (State.isArrayOf_alike hZ.alike Ar128.2.1) Ar128.2.2 hin128 (Hs128.at hin128 rfl) (g := (mkF m 149 #[.val (.int p1), .val (.int p2), .val (.int p3), .val (.int p4), .val (.int (3 : Int32)), .val (.int (p2.toInt8.toInt32)), .val (.int (p3.toInt8.toInt32)), .val (.int (p4.toInt8.toInt32)), .val (.ref b96), .val (.ref b110)] [(.int (4 : Int32)), (.ref b110)])) rfl rfl (hb hby at_149) _ ?_
      show Steps p.tables e below (T109.setTop (mkF m 150 #[.val (.int p1), .val (.int p2), .val (.int p3), .val (.int p4), .val (.int (3 : Int32)), .val (.int (p2.toInt8.toInt32)), .val (.int (p3.toInt8.toInt32)), .val (.int (p4.toInt8.toInt32)), .val (.ref b96), .val (.ref b110)] [(.int (28 : Int32))])) _
      refine XS.bipush X109.here hx rfl (hb hby at_150) ?_
      show Steps p.tables e below (T109.setTop (mkF m 152 #[.val (.int p1), .val (.int p2), .val (.int p3), .val (.int p4), .val (.int (3 : Int32)), .val (.int (p2.toInt8.toInt32)), .val (.int (p3.toInt8.toInt32)), .val (.int (p4.toInt8.toInt32)), .val (.ref b96), .val (.ref b110)] [(.int (28 : Int32)), (.int (28 : Int32))])) _
      refine XS.icmpYes X109.here hx rfl (pc0 := 152) (pc' := 157) rfl (hb hby at_152) rfl (teq (by decide : (28 : Int32) = (28 : Int32))).1 (by decide) (by decide) ?_
      show Steps p.tables e below (T109.setTop (mkF m 157 #[.val (.int p1), .val (.int p2), .val (.int p3), .val (.int p4), .val (.int (3 : Int32)), .val (.int (p2.toInt8.toInt32)), .val (.int (p3.toInt8.toInt32)), .val (.int (p4.toInt8.toInt32)), .val (.ref b96), .val (.ref b110)] [])) _
      refine XS.aload X109.here hx rfl (hb hby at_157) rfl rfl ?_
      show Steps p.tables e below (T109.setTop (mkF m 159 #[.val (.int p1), .val (.int p2), .val (.int p3), .val (.int p4), .val (.int (3 : Int32)), .val (.int (p2.toInt8.toInt32)), .val (.int (p3.toInt8.toInt32)), .val (.int (p4.toInt8.toInt32)), .val (.ref b96), .val (.ref b110)] [(.ref b110)])) _
      refine XS.iload X109.here hx rfl (hb hby at_159) rfl ?_
      show Steps p.tables e below (T109.setTop (mkF m 161 #[.val (.int p1), .val (.int p2), .val (.int p3), .val (.int p4), .val (.int (3 : Int32)), .val (.int (p2.toInt8.toInt32)), .val (.int (p3.toInt8.toInt32)), .val (.int (p4.toInt8.toInt32)), .val (.ref b96), .val (.ref b110)] [(.int (3 : Int32)), (.ref b110)])) _
      refine XS.iconst X109.here hx rfl (hb hby at_161) ?_
      show Steps p.tables e below (T109.setTop (mkF m 162 #[.val (.int p1), .val (.int p2), .val (.int p3), .val (.int p4), .val (.int (3 : Int32)), .val (.int (p2.toInt8.toInt32)), .val (.int (p3.toInt8.toInt32)), .val (.int (p4.toInt8.toInt32)), .val (.ref b96), .val (.ref b110)] [(.int (2 : Int32)), (.int (3 : Int32)), (.ref b110)])) _
      refine XS.iadd X109.here hx rfl (hb hby at_162) rfl ?_
      show Steps p.tables e below (T109.setTop (mkF m 163 #[.val (.int p1), .val (.int p2), .val (.int p3), .val (.int p4), .val (.int (3 : Int32)), .val (.int (p2.toInt8.toInt32)), .val (.int (p3.toInt8.toInt32)), .val (.int (p4.toInt8.toInt32)), .val (.ref b96), .val (.ref b110)] [(.int (5 : Int32)), (.ref b110)])) _
      exact kt
    obtain ⟨cl130, Ar130, -, Sz130, -, Hs130, -⟩ := id g113
    have hin130 : ¬ ((5 : Int32) < 0 ∨ cl130.slots.size ≤ ((5 : Int32)).toNatClampNeg) := inb_of Sz130 ⟨by decide, by decide⟩
    have pre131 : own_Go p e below S0 (T109.setTop (mkF m 179 #[.val (.int p1), .val (.int p2), .val (.int p3), .val (.int p4), .val (.int (3 : Int32)), .val (.int (p2.toInt8.toInt32)), .val (.int (p3.toInt8.toInt32)), .val (.int (p4.toInt8.toInt32)), .val (.ref b96), .val (.ref b110)] [(.int (0 : Int32)), (.ref b96)])) := by
      intro t kt
      refine pre129 t ?_
      refine X109.baloadBytes hx (j := (5 : Int32)) (v := (.int (13 : Int32))) Ar130.1 (State.isArrayOf_alike hZ.alike Ar130.2.1) Ar130.2.2 hin130 (Hs130.at hin130 rfl) (g := (mkF m 163 #[.val (.int p1), .val (.int p2), .val (.int p3), .val (.int p4), .val (.int (3 : Int32)), .val (.int (p2.toInt8.toInt32)), .val (.int (p3.toInt8.toInt32)), .val (.int (p4.toInt8.toInt32)), .val (.ref b96), .val (.ref b110)] [(.int (5 : Int32)), (.ref b110)])) rfl rfl (hb hby at_163) _ ?_
      show Steps p.tables e below (T109.setTop (mkF m 164 #[.val (.int p1), .val (.int p2), .val (.int p3), .val (.int p4), .val (.int (3 : Int32)), .val (.int (p2.toInt8.toInt32)), .val (.int (p3.toInt8.toInt32)), .val (.int (p4.toInt8.toInt32)), .val (.ref b96), .val (.ref b110)] [(.int (13 : Int32))])) _
      refine XS.bipush X109.here hx rfl (hb hby at_164) ?_
      show Steps p.tables e below (T109.setTop (mkF m 166 #[.val (.int p1), .val (.int p2), .val (.int p3), .val (.int p4), .val (.int (3 : Int32)), .val (.int (p2.toInt8.toInt32)), .val (.int (p3.toInt8.toInt32)), .val (.int (p4.toInt8.toInt32)), .val (.ref b96), .val (.ref b110)] [(.int (13 : Int32)), (.int (13 : Int32))])) _
      refine XS.icmpYes X109.here hx rfl (pc0 := 166) (pc' := 171) rfl (hb hby at_166) rfl (teq (by decide : (13 : Int32) = (13 : Int32))).1 (by decide) (by decide) ?_
      show Steps p.tables e below (T109.setTop (mkF m 171 #[.val (.int p1), .val (.int p2), .val (.int p3), .val (.int p4), .val (.int (3 : Int32)), .val (.int (p2.toInt8.toInt32)), .val (.int (p3.toInt8.toInt32)), .val (.int (p4.toInt8.toInt32)), .val (.ref b96), .val (.ref b110)] [])) _
      refine XS.iload X109.here hx rfl (hb hby at_171) rfl ?_
      show Steps p.tables e below (T109.setTop (mkF m 173 #[.val (.int p1), .val (.int p2), .val (.int p3), .val (.int p4), .val (.int (3 : Int32)), .val (.int (p2.toInt8.toInt32)), .val (.int (p3.toInt8.toInt32)), .val (.int (p4.toInt8.toInt32)), .val (.ref b96), .val (.ref b110)] [(.int (3 : Int32))])) _
      refine XS.ifNo X109.here hx rfl (hb hby at_173) rfl ((if0 _ _).trans (tlt (by decide : (0 : Int32) < (3 : Int32))).2.2.2) ?_
      show Steps p.tables e below (T109.setTop (mkF m 176 #[.val (.int p1), .val (.int p2), .val (.int p3), .val (.int p4), .val (.int (3 : Int32)), .val (.int (p2.toInt8.toInt32)), .val (.int (p3.toInt8.toInt32)), .val (.int (p4.toInt8.toInt32)), .val (.ref b96), .val (.ref b110)] [])) _
      refine XS.aload X109.here hx rfl (hb hby at_176) rfl rfl ?_
      show Steps p.tables e below (T109.setTop (mkF m 178 #[.val (.int p1), .val (.int p2), .val (.int p3), .val (.int p4), .val (.int (3 : Int32)), .val (.int (p2.toInt8.toInt32)), .val (.int (p3.toInt8.toInt32)), .val (.int (p4.toInt8.toInt32)), .val (.ref b96), .val (.ref b110)] [(.ref b96)])) _
      refine XS.iconst X109.here hx rfl (hb hby at_178) ?_
      show Steps p.tables e below (T109.setTop (mkF m 179 #[.val (.int p1), .val (.int p2), .val (.int p3), .val (.int p4), .val (.int (3 : Int32)), .val (.int (p2.toInt8.toInt32)), .val (.int (p3.toInt8.toInt32)), .val (.int (p4.toInt8.toInt32)), .val (.ref b96), .val (.ref b110)] [(.int (0 : Int32)), (.ref b96)])) _
      exact kt
    have f132 : Arv Z T109.heap b96 k96 .byte (3 : Int32) [(.int (nar .byte (p2.toInt8.toInt32))), (.int (nar .byte (p3.toInt8.toInt32))), (.int (nar .byte (p4.toInt8.toInt32)))] (.int (0 : Int32)) := (V106.keep K109 nin0)
    obtain ⟨cl133, Ar133, -, Sz133, -, Hs133, -⟩ := id f132
    have hin133 : ¬ ((0 : Int32) < 0 ∨ cl133.slots.size ≤ ((0 : Int32)).toNatClampNeg) := inb_of Sz133 ⟨by decide, by decide⟩
    have pre134 : own_Go p e below S0 (T109.setTop (mkF m 196 #[.val (.int p1), .val (.int p2), .val (.int p3), .val (.int p4), .val (.int (3 : Int32)), .val (.int (p2.toInt8.toInt32)), .val (.int (p3.toInt8.toInt32)), .val (.int (p4.toInt8.toInt32)), .val (.ref b96), .val (.ref b110)] [(.int (1 : Int32)), (.ref b96)])) := by
      intro t kt
      refine pre131 t ?_
      refine X109.baloadBytes hx (j := (0 : Int32)) (v := (.int (nar .byte (p2.toInt8.toInt32)))) Ar133.1 (State.isArrayOf_alike hZ.alike Ar133.2.1) Ar133.2.2 hin133 (Hs133.at hin133 rfl) (g := (mkF m 179 #[.val (.int p1), .val (.int p2), .val (.int p3), .val (.int p4), .val (.int (3 : Int32)), .val (.int (p2.toInt8.toInt32)), .val (.int (p3.toInt8.toInt32)), .val (.int (p4.toInt8.toInt32)), .val (.ref b96), .val (.ref b110)] [(.int (0 : Int32)), (.ref b96)])) rfl rfl (hb hby at_179) _ ?_
      show Steps p.tables e below (T109.setTop (mkF m 180 #[.val (.int p1), .val (.int p2), .val (.int p3), .val (.int p4), .val (.int (3 : Int32)), .val (.int (p2.toInt8.toInt32)), .val (.int (p3.toInt8.toInt32)), .val (.int (p4.toInt8.toInt32)), .val (.ref b96), .val (.ref b110)] [(.int (nar .byte (p2.toInt8.toInt32)))])) _
      refine XS.iload X109.here hx rfl (hb hby at_180) rfl ?_
      show Steps p.tables e below (T109.setTop (mkF m 182 #[.val (.int p1), .val (.int p2), .val (.int p3), .val (.int p4), .val (.int (3 : Int32)), .val (.int (p2.toInt8.toInt32)), .val (.int (p3.toInt8.toInt32)), .val (.int (p4.toInt8.toInt32)), .val (.ref b96), .val (.ref b110)] [(.int (p2.toInt8.toInt32)), (.int (nar .byte (p2.toInt8.toInt32)))])) _
      refine XS.icmpYes X109.here hx rfl (pc0 := 182) (pc' := 187) rfl (hb hby at_182) rfl (teq (own_i2b _)).1 (by decide) (by decide) ?_
      show Steps p.tables e below (T109.setTop (mkF m 187 #[.val (.int p1), .val (.int p2), .val (.int p3), .val (.int p4), .val (.int (3 : Int32)), .val (.int (p2.toInt8.toInt32)), .val (.int (p3.toInt8.toInt32)), .val (.int (p4.toInt8.toInt32)), .val (.ref b96), .val (.ref b110)] [])) _
      refine XS.iload X109.here hx rfl (hb hby at_187) rfl ?_
      show Steps p.tables e below (T109.setTop (mkF m 189 #[.val (.int p1), .val (.int p2), .val (.int p3), .val (.int p4), .val (.int (3 : Int32)), .val (.int (p2.toInt8.toInt32)), .val (.int (p3.toInt8.toInt32)), .val (.int (p4.toInt8.toInt32)), .val (.ref b96), .val (.ref b110)] [(.int (3 : Int32))])) _
      refine XS.iconst X109.here hx rfl (hb hby at_189) ?_
      show Steps p.tables e below (T109.setTop (mkF m 190 #[.val (.int p1), .val (.int p2), .val (.int p3), .val (.int p4), .val (.int (3 : Int32)), .val (.int (p2.toInt8.toInt32)), .val (.int (p3.toInt8.toInt32)), .val (.int (p4.toInt8.toInt32)), .val (.ref b96), .val (.ref b110)] [(.int (1 : Int32)), (.int (3 : Int32))])) _
      refine XS.icmpNo X109.here hx rfl (hb hby at_190) rfl (tlt (by decide : (1 : Int32) < (3 : Int32))).2.2.2 ?_
      show Steps p.tables e below (T109.setTop (mkF m 193 #[.val (.int p1), .val (.int p2), .val (.int p3), .val (.int p4), .val (.int (3 : Int32)), .val (.int (p2.toInt8.toInt32)), .val (.int (p3.toInt8.toInt32)), .val (.int (p4.toInt8.toInt32)), .val (.ref b96), .val (.ref b110)] [])) _
      refine XS.aload X109.here hx rfl (hb hby at_193) rfl rfl ?_
      show Steps p.tables e below (T109.setTop (mkF m 195 #[.val (.int p1), .val (.int p2), .val (.int p3), .val (.int p4), .val (.int (3 : Int32)), .val (.int (p2.toInt8.toInt32)), .val (.int (p3.toInt8.toInt32)), .val (.int (p4.toInt8.toInt32)), .val (.ref b96), .val (.ref b110)] [(.ref b96)])) _
      refine XS.iconst X109.here hx rfl (hb hby at_195) ?_
      show Steps p.tables e below (T109.setTop (mkF m 196 #[.val (.int p1), .val (.int p2), .val (.int p3), .val (.int p4), .val (.int (3 : Int32)), .val (.int (p2.toInt8.toInt32)), .val (.int (p3.toInt8.toInt32)), .val (.int (p4.toInt8.toInt32)), .val (.ref b96), .val (.ref b110)] [(.int (1 : Int32)), (.ref b96)])) _
      exact kt
    obtain ⟨cl135, Ar135, -, Sz135, -, Hs135, -⟩ := id f132
    have hin135 : ¬ ((1 : Int32) < 0 ∨ cl135.slots.size ≤ ((1 : Int32)).toNatClampNeg) := inb_of Sz135 ⟨by decide, by decide⟩
    have pre136 : own_Go p e below S0 (T109.setTop (mkF m 213 #[.val (.int p1), .val (.int p2), .val (.int p3), .val (.int p4), .val (.int (3 : Int32)), .val (.int (p2.toInt8.toInt32)), .val (.int (p3.toInt8.toInt32)), .val (.int (p4.toInt8.toInt32)), .val (.ref b96), .val (.ref b110)] [(.int (2 : Int32)), (.ref b96)])) := by
      intro t kt
      refine pre134 t ?_
      refine X109.baloadBytes hx (j := (1 : Int32)) (v := (.int (nar .byte (p3.toInt8.toInt32)))) Ar135.1 (State.isArrayOf_alike hZ.alike Ar135.2.1) Ar135.2.2 hin135 (Hs135.at hin135 rfl) (g := (mkF m 196 #[.val (.int p1), .val (.int p2), .val (.int p3), .val (.int p4), .val (.int (3 : Int32)), .val (.int (p2.toInt8.toInt32)), .val (.int (p3.toInt8.toInt32)), .val (.int (p4.toInt8.toInt32)), .val (.ref b96), .val (.ref b110)] [(.int (1 : Int32)), (.ref b96)])) rfl rfl (hb hby at_196) _ ?_
      show Steps p.tables e below (T109.setTop (mkF m 197 #[.val (.int p1), .val (.int p2), .val (.int p3), .val (.int p4), .val (.int (3 : Int32)), .val (.int (p2.toInt8.toInt32)), .val (.int (p3.toInt8.toInt32)), .val (.int (p4.toInt8.toInt32)), .val (.ref b96), .val (.ref b110)] [(.int (nar .byte (p3.toInt8.toInt32)))])) _
      refine XS.iload X109.here hx rfl (hb hby at_197) rfl ?_
      show Steps p.tables e below (T109.setTop (mkF m 199 #[.val (.int p1), .val (.int p2), .val (.int p3), .val (.int p4), .val (.int (3 : Int32)), .val (.int (p2.toInt8.toInt32)), .val (.int (p3.toInt8.toInt32)), .val (.int (p4.toInt8.toInt32)), .val (.ref b96), .val (.ref b110)] [(.int (p3.toInt8.toInt32)), (.int (nar .byte (p3.toInt8.toInt32)))])) _
      refine XS.icmpYes X109.here hx rfl (pc0 := 199) (pc' := 204) rfl (hb hby at_199) rfl (teq (own_i2b _)).1 (by decide) (by decide) ?_
      show Steps p.tables e below (T109.setTop (mkF m 204 #[.val (.int p1), .val (.int p2), .val (.int p3), .val (.int p4), .val (.int (3 : Int32)), .val (.int (p2.toInt8.toInt32)), .val (.int (p3.toInt8.toInt32)), .val (.int (p4.toInt8.toInt32)), .val (.ref b96), .val (.ref b110)] [])) _
      refine XS.iload X109.here hx rfl (hb hby at_204) rfl ?_
      show Steps p.tables e below (T109.setTop (mkF m 206 #[.val (.int p1), .val (.int p2), .val (.int p3), .val (.int p4), .val (.int (3 : Int32)), .val (.int (p2.toInt8.toInt32)), .val (.int (p3.toInt8.toInt32)), .val (.int (p4.toInt8.toInt32)), .val (.ref b96), .val (.ref b110)] [(.int (3 : Int32))])) _
      refine XS.iconst X109.here hx rfl (hb hby at_206) ?_
      show Steps p.tables e below (T109.setTop (mkF m 207 #[.val (.int p1), .val (.int p2), .val (.int p3), .val (.int p4), .val (.int (3 : Int32)), .val (.int (p2.toInt8.toInt32)), .val (.int (p3.toInt8.toInt32)), .val (.int (p4.toInt8.toInt32)), .val (.ref b96), .val (.ref b110)] [(.int (2 : Int32)), (.int (3 : Int32))])) _
      refine XS.icmpNo X109.here hx rfl (hb hby at_207) rfl (tlt (by decide : (2 : Int32) < (3 : Int32))).2.2.2 ?_
      show Steps p.tables e below (T109.setTop (mkF m 210 #[.val (.int p1), .val (.int p2), .val (.int p3), .val (.int p4), .val (.int (3 : Int32)), .val (.int (p2.toInt8.toInt32)), .val (.int (p3.toInt8.toInt32)), .val (.int (p4.toInt8.toInt32)), .val (.ref b96), .val (.ref b110)] [])) _
      refine XS.aload X109.here hx rfl (hb hby at_210) rfl rfl ?_
      show Steps p.tables e below (T109.setTop (mkF m 212 #[.val (.int p1), .val (.int p2), .val (.int p3), .val (.int p4), .val (.int (3 : Int32)), .val (.int (p2.toInt8.toInt32)), .val (.int (p3.toInt8.toInt32)), .val (.int (p4.toInt8.toInt32)), .val (.ref b96), .val (.ref b110)] [(.ref b96)])) _
      refine XS.iconst X109.here hx rfl (hb hby at_212) ?_
      show Steps p.tables e below (T109.setTop (mkF m 213 #[.val (.int p1), .val (.int p2), .val (.int p3), .val (.int p4), .val (.int (3 : Int32)), .val (.int (p2.toInt8.toInt32)), .val (.int (p3.toInt8.toInt32)), .val (.int (p4.toInt8.toInt32)), .val (.ref b96), .val (.ref b110)] [(.int (2 : Int32)), (.ref b96)])) _
      exact kt
    obtain ⟨cl137, Ar137, -, Sz137, -, Hs137, -⟩ := id f132
    have hin137 : ¬ ((2 : Int32) < 0 ∨ cl137.slots.size ≤ ((2 : Int32)).toNatClampNeg) := inb_of Sz137 ⟨by decide, by decide⟩
    have pre138 : own_Go p e below S0 (T109.setTop (mkF m 222 #[.val (.int p1), .val (.int p2), .val (.int p3), .val (.int p4), .val (.int (3 : Int32)), .val (.int (p2.toInt8.toInt32)), .val (.int (p3.toInt8.toInt32)), .val (.int (p4.toInt8.toInt32)), .val (.ref b96), .val (.ref b110)] [(.int (1 : Int32))])) := by
      intro t kt
      refine pre136 t ?_
      refine X109.baloadBytes hx (j := (2 : Int32)) (v := (.int (nar .byte (p4.toInt8.toInt32)))) Ar137.1 (State.isArrayOf_alike hZ.alike Ar137.2.1) Ar137.2.2 hin137 (Hs137.at hin137 rfl) (g := (mkF m 213 #[.val (.int p1), .val (.int p2), .val (.int p3), .val (.int p4), .val (.int (3 : Int32)), .val (.int (p2.toInt8.toInt32)), .val (.int (p3.toInt8.toInt32)), .val (.int (p4.toInt8.toInt32)), .val (.ref b96), .val (.ref b110)] [(.int (2 : Int32)), (.ref b96)])) rfl rfl (hb hby at_213) _ ?_
      show Steps p.tables e below (T109.setTop (mkF m 214 #[.val (.int p1), .val (.int p2), .val (.int p3), .val (.int p4), .val (.int (3 : Int32)), .val (.int (p2.toInt8.toInt32)), .val (.int (p3.toInt8.toInt32)), .val (.int (p4.toInt8.toInt32)), .val (.ref b96), .val (.ref b110)] [(.int (nar .byte (p4.toInt8.toInt32)))])) _
      refine XS.iload X109.here hx rfl (hb hby at_214) rfl ?_
      show Steps p.tables e below (T109.setTop (mkF m 216 #[.val (.int p1), .val (.int p2), .val (.int p3), .val (.int p4), .val (.int (3 : Int32)), .val (.int (p2.toInt8.toInt32)), .val (.int (p3.toInt8.toInt32)), .val (.int (p4.toInt8.toInt32)), .val (.ref b96), .val (.ref b110)] [(.int (p4.toInt8.toInt32)), (.int (nar .byte (p4.toInt8.toInt32)))])) _
      refine XS.icmpYes X109.here hx rfl (pc0 := 216) (pc' := 221) rfl (hb hby at_216) rfl (teq (own_i2b _)).1 (by decide) (by decide) ?_
      show Steps p.tables e below (T109.setTop (mkF m 221 #[.val (.int p1), .val (.int p2), .val (.int p3), .val (.int p4), .val (.int (3 : Int32)), .val (.int (p2.toInt8.toInt32)), .val (.int (p3.toInt8.toInt32)), .val (.int (p4.toInt8.toInt32)), .val (.ref b96), .val (.ref b110)] [])) _
      refine XS.iconst X109.here hx rfl (hb hby at_221) ?_
      show Steps p.tables e below (T109.setTop (mkF m 222 #[.val (.int p1), .val (.int p2), .val (.int p3), .val (.int p4), .val (.int (3 : Int32)), .val (.int (p2.toInt8.toInt32)), .val (.int (p3.toInt8.toInt32)), .val (.int (p4.toInt8.toInt32)), .val (.ref b96), .val (.ref b110)] [(.int (1 : Int32))])) _
      exact kt
    obtain ⟨fs, hr, hrun, hended, hW, hsame⟩ := X109.leave (v := some (.int (1 : Int32))) (fun h => by rw [Bd.returns] at h; cases h)
    refine ⟨_, _, fin _ (pre138 _ ?_), hrun, hended, _, _, rfl, ?_, ⟨_, rfl⟩, hW, hsame.mono (by decide) (by decide)⟩
    · exact retN X109 hx (t := .boolean) Bd.returns (by simp) (hb hby at_222) hr
    · show Q0 Z p1 p2 p3 p4 h0 n0 _ T109.heap _
      exact ⟨rfl, N109⟩

set_option maxRecDepth 65536 in
set_option maxHeartbeats 40000000 in
theorem comes_1 {Post : Tables → Env → Array Value → State → Outcome → State → Prop} (hpost : ∀ tb e args s v u, (limb_1_1.after args s (.returned v) u = true ∧ limb_1_2.after args s (.returned v) u = true ∧ True) → FrameEnd s (.returned v) u (Jvm.fieldLocs frame_1_writes args s ++ Jvm.arrayLocs frame_1_arrays args s ++ Jvm.staticLocs frame_1_statics s) 16 128 → Post tb e args s (.returned v) u) :
    ArmFor flags0 classFile x code maxLocals ret World_1 tables_1 room_1 Calls_1 rest_1 Pre_1 Post := by
  intro l hfl _ _ p e ha hc hk s m args below hf hA hF happ hP
  obtain ⟨hcalls, hrest, hpre⟩ := hP
  obtain ⟨-, -, -, hnamed, -, -, -, hat⟩ := (Spec.applies_iff hf).mp happ
  obtain ⟨hg, hn⟩ := and_e (Cond.before_iff.mp (show (Jvm.Cond.and given_1 narrow_1).before args s = true from hpre))
  obtain ⟨hcount, hg0⟩ := and_e hg
  obtain ⟨ga0, hg1⟩ := and_e hg0
  obtain ⟨ga1, hg2⟩ := and_e hg1
  obtain ⟨ga2, hg3⟩ := and_e hg2
  have ga3 := hg3
  obtain ⟨w0, w1, w2, w3, rfl⟩ : ∃ w0 w1 w2 w3 : Value, args = #[w0, w1, w2, w3] := by
    have hs : args.size = 4 := by simpa [Cond.value, given_1] using hcount
    obtain ⟨L⟩ := args
    match L, hs with
    | [w0, w1, w2, w3], _ => exact ⟨w0, w1, w2, w3, rfl⟩
  have hw := fun d (hd : d ∈ tables_1) => atoms_spec (ws := Jvm.Cond.code x code maxLocals ret :: tables_1) hat d (List.mem_cons_of_mem _ hd)
  have hfit : Fit s := fun {y c} hc i hi => by
    obtain ⟨ha, rfl⟩ := Array.getElem?_eq_some_iff.mp hc
    have q := List.all_eq_true.mp ((Array.all_eq_true_iff_forall_mem.mp hF) _ (Array.getElem_mem ha)) i (List.mem_range.mpr hi)
    simpa [Array.getElem?_eq_getElem hi] using q
  obtain ⟨i0, ei0⟩ := is_v ga0
  obtain rfl : w0 = (.int i0) := Option.some.inj ei0
  obtain ⟨i1, ei1⟩ := is_v ga1
  obtain rfl : w1 = (.int i1) := Option.some.inj ei1
  obtain ⟨i2, ei2⟩ := is_v ga2
  obtain rfl : w2 = (.int i2) := Option.some.inj ei2
  obtain ⟨i3, ei3⟩ := is_v ga3
  obtain rfl : w3 = (.int i3) := Option.some.inj ei3
  obtain ⟨n, o, h1, h2, h3, _, L, rfl, ⟨rfl, N⟩, hq⟩ := rm0 l s _ hw tables_1 i0 i1 i2 i3 s.heap s.heap.size (Nat.le_refl _)  p e ha hc hk s m _ below hf ((Spec.applies_iff_loose hf).mp happ).1 ⟨rfl, State.Warmed39.refl s, rfl⟩ trivial
  refine ⟨n, _, h1, h2, h3, hpost _ _ _ _ _ _ ⟨Cond.after_iff.mpr rfl, Cond.after_iff.mpr (eq_i res_at (Term.int_eval (1)) rfl), trivial⟩ ⟨hq.1, hq.2.1, (hq.2.2.sift fun y hy => Or.inr (N y hy)).mono (by decide) (by decide)⟩⟩
theorem main_1_1 : Claimed_1_1 := comes_1 fun _ _ _ _ _ _ h hF => ⟨h.1, hF⟩
theorem main_1_2 : Claimed_1_2 := comes_1 fun _ _ _ _ _ _ h hF => ⟨h.2.1, hF⟩

end Jvm.Pilot.@@N@@
namespace Jvm.Pilot.@@N@@
open Jvm Jvm.ClassFile Sem Op Lib Jvm.Free Jvm.Stand Jvm.Pilot.@@N@@.Jvm.D
/-! MADE BY PROGRAM (witnessworld.py) out of the Statement's table words and the real class files: 12 classes; the members and pool entries that the words name. The judged class is class 1, her method 1. -/
namespace start1
open Jvm.ClassFile
def u (s : String) : CpInfo := .utf8 (stringToUtf16 s)
/-- a pool by its gaps: so many unusable entries, then the entry; so many at the end -/
def gap : Nat → List CpInfo → List CpInfo
  | 0, r => r
  | n + 1, r => .unusable :: gap n r
def poolList (es : List (Nat × CpInfo)) (last : Nat) : List CpInfo := es.foldr (fun e r => gap e.1 (e.2 :: r)) (gap last [])
def pool (es : List (Nat × CpInfo)) (last : Nat) : Array CpInfo := ⟨poolList es last⟩
def fileOf (pool : Array CpInfo) (this : Nat) (attrs : Array Attribute := #[]) (ms : Array MethodInfo := #[]) (fl : Nat := 33) (sup : Nat := 0) (ifs : Array Nat := #[]) (fds : Array FieldInfo := #[]) : ClassFile where
  minorVersion := 0
  majorVersion := 65
  constantPool := pool
  accessFlags := fl
  thisClass := this
  superClass := sup
  interfaces := ifs
  fields := fds
  methods := ms
  attributes := attrs
def plain (name : String) (sup : Option ClassId) : Class where
  name := name
  kind := .ordinary
  loader := none
  accessFlags := 33
  super := sup
  interfaces := #[]
  cf := none
  fields := #[]
  methods := #[]
  instanceTypes := #[]
  staticTypes := #[]
  resolved := #[]
  callSites := []
  init := .initialized
  statics := none
  mirror := none

def pool0 : Array CpInfo := pool [(5, u "<init>"), (0, u "()V"), (1, .class_ 10), (1, u "java/lang/Object")] 113

def k0m0 : Method := { name := "<init>", desc := "()V", sig := { parameters := [], returnType := none }, accessFlags := 1, code := none }
/-- java/lang/Object -/
def k0 : Class := { plain "java/lang/Object" none with
  accessFlags := 33
  interfaces := #[]
  cf := some (fileOf pool0 8 #[] #[{ accessFlags := 1, nameIndex := 5, descriptorIndex := 6, attributes := #[] }] 33 0 #[] #[])
  fields := #[]
  methods := #[k0m0]
  instanceTypes := #[]
  staticTypes := #[]
  resolved := Array.replicate 124 none
  statics := none }

def pool1 : Array CpInfo := pool [(2, .class_ 4), (1, u "java/lang/Object"), (0, u "<init>"), (0, u "()V"), (0, .methodref 8 9), (0, .class_ 10), (0, .nameAndType 11 12), (0, u "com/example/refertario/refertario/hl7/MllpServer"), (0, u "frame"), (0, u "([B)[B"), (0, .class_ 14), (0, u "com/example/refertario/refertario/hl7/MllpServerFramePinLaw"), (2, u "law"), (0, u "(IIII)Z")] 5

def k1m0 : Method := { name := "<init>", desc := "()V", sig := { parameters := [], returnType := none }, accessFlags := 1, code := none }
def k1c1 : Code := { maxStack := 3, maxLocals := 10, code := code, exceptionTable := #[], attributes := #[] }
def k1m1 : Method := { name := "law", desc := "(IIII)Z", sig := { parameters := [.int, .int, .int, .int], returnType := some .boolean }, accessFlags := 9, code := some k1c1 }
/-- com/example/refertario/refertario/hl7/MllpServerFramePinLaw -/
def k1 : Class := { plain "com/example/refertario/refertario/hl7/MllpServerFramePinLaw" (some 0) with
  accessFlags := 49
  interfaces := #[]
  cf := some (fileOf pool1 13 #[] #[{ accessFlags := 1, nameIndex := 5, descriptorIndex := 6, attributes := #[] }, { accessFlags := 9, nameIndex := 17, descriptorIndex := 18, attributes := #[] }] 49 2 #[] #[])
  fields := #[]
  methods := #[k1m0, k1m1]
  instanceTypes := #[]
  staticTypes := #[]
  resolved := Array.replicate 24 none
  statics := none }

def pool2 : Array CpInfo := pool [(1, .class_ 2), (0, u "java/lang/AutoCloseable"), (0, .class_ 4), (0, u "java/lang/Object")] 7

/-- java/lang/AutoCloseable -/
def k2 : Class := { plain "java/lang/AutoCloseable" (some 0) with
  accessFlags := 1537
  interfaces := #[]
  cf := some (fileOf pool2 1 #[] #[] 1537 3 #[] #[])
  fields := #[]
  methods := #[]
  instanceTypes := #[]
  staticTypes := #[]
  resolved := Array.replicate 12 none
  statics := none }

def pool3 : Array CpInfo := pool [(1, .class_ 2), (0, u "java/io/Closeable"), (0, .class_ 4), (0, u "java/lang/Object"), (0, .class_ 6), (0, u "java/lang/AutoCloseable")] 7

/-- java/io/Closeable -/
def k3 : Class := { plain "java/io/Closeable" (some 0) with
  accessFlags := 1537
  interfaces := #[2]
  cf := some (fileOf pool3 1 #[] #[] 1537 3 #[5] #[])
  fields := #[]
  methods := #[]
  instanceTypes := #[]
  staticTypes := #[]
  resolved := Array.replicate 14 none
  statics := none }

def pool4 : Array CpInfo := pool [(2, .class_ 4), (1, u "java/lang/Object"), (9, .class_ 16), (1, u "com/example/refertario/refertario/hl7/MllpServer"), (0, u "connections"), (0, u "Ljava/util/Set;"), (12, u "workers"), (0, u "Ljava/util/concurrent/ExecutorService;"), (2, u "listener"), (0, u "Ljava/net/ServerSocket;"), (2, u "handler"), (0, u "Ljava/util/function/UnaryOperator;"), (2, u "err"), (0, u "Ljava/io/PrintStream;"), (12, u "acceptor"), (0, u "Ljava/lang/Thread;"), (46, u "closing"), (0, u "Z"), (79, u "frame"), (0, u "([B)[B"), (9, .methodref 198 199), (0, .class_ 200), (0, .nameAndType 201 202), (0, u "java/lang/System"), (0, u "arraycopy"), (0, u "(Ljava/lang/Object;ILjava/lang/Object;II)V"), (74, .class_ 279), (1, u "com/example/refertario/refertario/hl7/MllpServer$SocketAction"), (12, .class_ 293), (0, u "java/io/Closeable"), (0, u "MAX_MESSAGE_BYTES"), (0, u "I"), (1, u "DRAIN_SECONDS"), (1, u "ACCEPT_RETRY_MILLIS")] 68

def k4c0 : Code := { maxStack := 5, maxLocals := 2, code := prog_54_method_6_code, exceptionTable := #[], attributes := #[] }
def k4m0 : Method := { name := "frame", desc := "([B)[B", sig := { parameters := [(.array .byte)], returnType := some (.array .byte) }, accessFlags := 8, code := some k4c0 }
/-- com/example/refertario/refertario/hl7/MllpServer -/
def k4 : Class := { plain "com/example/refertario/refertario/hl7/MllpServer" (some 0) with
  accessFlags := 49
  interfaces := #[3]
  cf := some (fileOf pool4 14 #[.nestMembers #[277]] #[{ accessFlags := 8, nameIndex := 186, descriptorIndex := 187, attributes := #[] }] 49 2 #[292] #[{ accessFlags := 25, nameIndex := 294, descriptorIndex := 295, attributes := #[] }, { accessFlags := 26, nameIndex := 297, descriptorIndex := 295, attributes := #[] }, { accessFlags := 26, nameIndex := 299, descriptorIndex := 295, attributes := #[] }, { accessFlags := 18, nameIndex := 35, descriptorIndex := 36, attributes := #[] }, { accessFlags := 18, nameIndex := 39, descriptorIndex := 40, attributes := #[] }, { accessFlags := 18, nameIndex := 43, descriptorIndex := 44, attributes := #[] }, { accessFlags := 18, nameIndex := 17, descriptorIndex := 18, attributes := #[] }, { accessFlags := 18, nameIndex := 31, descriptorIndex := 32, attributes := #[] }, { accessFlags := 18, nameIndex := 57, descriptorIndex := 58, attributes := #[] }, { accessFlags := 66, nameIndex := 105, descriptorIndex := 106, attributes := #[] }])
  fields := #[{ name := "MAX_MESSAGE_BYTES", type := .int, accessFlags := 25, slot := 0, constantValue := 0 }, { name := "DRAIN_SECONDS", type := .int, accessFlags := 26, slot := 1, constantValue := 0 }, { name := "ACCEPT_RETRY_MILLIS", type := .int, accessFlags := 26, slot := 2, constantValue := 0 }, { name := "listener", type := (.object "java/net/ServerSocket"), accessFlags := 18, slot := 0, constantValue := 0 }, { name := "handler", type := (.object "java/util/function/UnaryOperator"), accessFlags := 18, slot := 1, constantValue := 0 }, { name := "err", type := (.object "java/io/PrintStream"), accessFlags := 18, slot := 2, constantValue := 0 }, { name := "connections", type := (.object "java/util/Set"), accessFlags := 18, slot := 3, constantValue := 0 }, { name := "workers", type := (.object "java/util/concurrent/ExecutorService"), accessFlags := 18, slot := 4, constantValue := 0 }, { name := "acceptor", type := (.object "java/lang/Thread"), accessFlags := 18, slot := 5, constantValue := 0 }, { name := "closing", type := .boolean, accessFlags := 66, slot := 6, constantValue := 0 }]
  methods := #[k4m0]
  instanceTypes := #[(.object "java/net/ServerSocket"), (.object "java/util/function/UnaryOperator"), (.object "java/io/PrintStream"), (.object "java/util/Set"), (.object "java/util/concurrent/ExecutorService"), (.object "java/lang/Thread"), .boolean]
  staticTypes := #[.int, .int, .int]
  resolved := Array.replicate 368 none
  statics := none }

def pool5 : Array CpInfo := pool [(2, .class_ 4), (1, u "java/lang/Object"), (0, u "<init>"), (0, u "()V"), (1, .class_ 10), (1, u "java/lang/System"), (0, u "allowSecurityManager"), (0, u "I"), (16, u "cons"), (0, u "Ljava/io/Console;"), (77, .class_ 110), (1, u "java/lang/System$CallersHolder"), (43, u "initialErrStream"), (0, u "Ljava/io/PrintStream;"), (19, u "security"), (0, u "Ljava/lang/SecurityManager;"), (31, .class_ 209), (0, u "java/lang/System$1"), (7, u "props"), (0, u "Ljava/util/Properties;"), (2, u "lineSeparator"), (0, u "Ljava/lang/String;"), (96, .class_ 321), (1, u "java/lang/System$LoggerFinder"), (5, .class_ 328), (0, u "java/lang/System$Logger"), (67, u "err"), (2, u "out"), (91, u "notSupportedJnuEncoding"), (15, u "in"), (17, u "initialIn"), (0, u "Ljava/io/InputStream;"), (35, u "bootLayer"), (0, u "Ljava/lang/ModuleLayer;"), (99, .class_ 664), (0, u "java/lang/System$2"), (9, u "NEVER"), (2, u "MAYBE"), (49, u "arraycopy"), (0, u "(Ljava/lang/Object;ILjava/lang/Object;II)V"), (72, .class_ 802), (0, u "java/lang/System$Logger$Level")] 31

def k5m0 : Method := { name := "<init>", desc := "()V", sig := { parameters := [], returnType := none }, accessFlags := 2, code := none }
def k5m1 : Method := { name := "arraycopy", desc := "(Ljava/lang/Object;ILjava/lang/Object;II)V", sig := { parameters := [(.object "java/lang/Object"), .int, (.object "java/lang/Object"), .int, .int], returnType := none }, accessFlags := 265, code := none }
/-- java/lang/System -/
def k5 : Class := { plain "java/lang/System" (some 0) with
  accessFlags := 49
  interfaces := #[]
  cf := some (fileOf pool5 8 #[.nestMembers #[319, 327, 801, 108, 663, 208]] #[{ accessFlags := 2, nameIndex := 5, descriptorIndex := 6, attributes := #[] }, { accessFlags := 265, nameIndex := 727, descriptorIndex := 728, attributes := #[] }] 49 2 #[] #[{ accessFlags := 25, nameIndex := 507, descriptorIndex := 526, attributes := #[] }, { accessFlags := 25, nameIndex := 399, descriptorIndex := 155, attributes := #[] }, { accessFlags := 25, nameIndex := 396, descriptorIndex := 155, attributes := #[] }, { accessFlags := 10, nameIndex := 525, descriptorIndex := 526, attributes := #[] }, { accessFlags := 26, nameIndex := 674, descriptorIndex := 12, attributes := #[] }, { accessFlags := 26, nameIndex := 677, descriptorIndex := 12, attributes := #[] }, { accessFlags := 10, nameIndex := 11, descriptorIndex := 12, attributes := #[] }, { accessFlags := 74, nameIndex := 175, descriptorIndex := 176, attributes := #[] }, { accessFlags := 10, nameIndex := 491, descriptorIndex := 222, attributes := #[] }, { accessFlags := 74, nameIndex := 29, descriptorIndex := 30, attributes := #[] }, { accessFlags := 74, nameIndex := 154, descriptorIndex := 155, attributes := #[] }, { accessFlags := 10, nameIndex := 217, descriptorIndex := 218, attributes := #[] }, { accessFlags := 10, nameIndex := 221, descriptorIndex := 222, attributes := #[] }, { accessFlags := 8, nameIndex := 562, descriptorIndex := 563, attributes := #[] }])
  fields := #[{ name := "in", type := (.object "java/io/InputStream"), accessFlags := 25, slot := 0, constantValue := 0 }, { name := "out", type := (.object "java/io/PrintStream"), accessFlags := 25, slot := 1, constantValue := 0 }, { name := "err", type := (.object "java/io/PrintStream"), accessFlags := 25, slot := 2, constantValue := 0 }, { name := "initialIn", type := (.object "java/io/InputStream"), accessFlags := 10, slot := 3, constantValue := 0 }, { name := "NEVER", type := .int, accessFlags := 26, slot := 4, constantValue := 0 }, { name := "MAYBE", type := .int, accessFlags := 26, slot := 5, constantValue := 0 }, { name := "allowSecurityManager", type := .int, accessFlags := 10, slot := 6, constantValue := 0 }, { name := "security", type := (.object "java/lang/SecurityManager"), accessFlags := 74, slot := 7, constantValue := 0 }, { name := "notSupportedJnuEncoding", type := (.object "java/lang/String"), accessFlags := 10, slot := 8, constantValue := 0 }, { name := "cons", type := (.object "java/io/Console"), accessFlags := 74, slot := 9, constantValue := 0 }, { name := "initialErrStream", type := (.object "java/io/PrintStream"), accessFlags := 74, slot := 10, constantValue := 0 }, { name := "props", type := (.object "java/util/Properties"), accessFlags := 10, slot := 11, constantValue := 0 }, { name := "lineSeparator", type := (.object "java/lang/String"), accessFlags := 10, slot := 12, constantValue := 0 }, { name := "bootLayer", type := (.object "java/lang/ModuleLayer"), accessFlags := 8, slot := 13, constantValue := 0 }]
  methods := #[k5m0, k5m1]
  instanceTypes := #[]
  staticTypes := #[(.object "java/io/InputStream"), (.object "java/io/PrintStream"), (.object "java/io/PrintStream"), (.object "java/io/InputStream"), .int, .int, .int, (.object "java/lang/SecurityManager"), (.object "java/lang/String"), (.object "java/io/Console"), (.object "java/io/PrintStream"), (.object "java/util/Properties"), (.object "java/lang/String"), (.object "java/lang/ModuleLayer")]
  resolved := Array.replicate 834 none
  statics := none }

def pool6 : Array CpInfo := pool [(1, u "java/lang/Cloneable"), (0, .class_ 1), (0, u "java/lang/Object"), (0, .class_ 3)] 3

/-- java/lang/Cloneable -/
def k6 : Class := { plain "java/lang/Cloneable" (some 0) with
  accessFlags := 1537
  interfaces := #[]
  cf := some (fileOf pool6 2 #[] #[] 1537 4 #[] #[])
  fields := #[]
  methods := #[]
  instanceTypes := #[]
  staticTypes := #[]
  resolved := Array.replicate 8 none
  statics := none }

def pool7 : Array CpInfo := pool [(1, u "java/io/Serializable"), (0, .class_ 1), (0, u "java/lang/Object"), (0, .class_ 3)] 3

/-- java/io/Serializable -/
def k7 : Class := { plain "java/io/Serializable" (some 0) with
  accessFlags := 1537
  interfaces := #[]
  cf := some (fileOf pool7 2 #[] #[] 1537 4 #[] #[])
  fields := #[]
  methods := #[]
  instanceTypes := #[]
  staticTypes := #[]
  resolved := Array.replicate 8 none
  statics := none }

/-- the primitive byte -/
def k8 : Class := { plain "byte" none with kind := .primitive 'B', accessFlags := 0x411 }
/-- [B -/
def k9 : Class := { plain "[B" (some 0) with kind := .array 8 .byte, interfaces := #[6, 7], accessFlags := 1041 }

/-- the primitive int -/
def k10 : Class := { plain "int" none with kind := .primitive 'I', accessFlags := 0x411 }
/-- [I -/
def k11 : Class := { plain "[I" (some 0) with kind := .array 10 .int, interfaces := #[6, 7], accessFlags := 1041 }

def heap : Heap := #[]
def classes : Array Class := #[k0, k1, k2, k3, k4, k5, k6, k7, k8, k9, k10, k11]
def interned : List (Array UInt16 × Addr) := []
def slotsUsed : Nat := 0
def theMethod : MethodId := ⟨1, 1⟩
def args0 : Array Value := #[.int 5, .int 3, .int 4, .int 1]
def aboutOver (below : List Frame) : State where
  vm := { classes := classes, interned := interned.toArray }
  heap := heap
  slotsUsed := slotsUsed
  threads := #[{ frames := .invoking theMethod args0 :: below }]
def below0 : List Frame := [.native { method := ⟨0, 0⟩, args := #[] }]
def about1 : State := aboutOver below0
def p0 : Program := .bare "" "" ""
def e0 : Env := launch0.env 0 0 0
theorem w_frames : about1.frames = Frame.invoking theMethod args0 :: below0 := rfl
set_option maxRecDepth 65536 in
theorem w_args : argsFit about1.vm theMethod args0 = true := by decide +kernel
set_option maxRecDepth 65536 in
theorem w_heap : heapFits about1 = true := by decide +kernel
set_option maxRecDepth 65536 in
theorem w_runnable : about1.curStatus? = some .runnable := by decide +kernel
set_option maxRecDepth 65536 in
theorem w_alone : about1.alone = true := by decide +kernel
set_option maxRecDepth 65536 in
theorem w_named : about1.methodNamed? x = some theMethod := by decide +kernel
set_option maxRecDepth 65536 in
theorem w_hears : about1.hears theMethod below0 = true := by decide +kernel
set_option maxRecDepth 65536 in
theorem w_ripe : about1.ripe theMethod args0 below0 = true := by decide +kernel
theorem w_running : about1.status = .running := rfl
set_option maxRecDepth 65536 in
theorem w_room : about1.hasRoom e0.platform room_1 = true :=
  launch0.hasRoom_least _ room_1 (by decide +kernel) (by decide +kernel) (by decide +kernel) (by decide +kernel) (by decide +kernel) (by decide +kernel)
theorem allAtoms_all (ts : List Jvm.Cond) (a : Array Jvm.Value) (st : Jvm.State) : (allAtoms ts).before a st = ts.all (fun c => c.before a st) := by
  induction ts with
  | nil => rfl
  | cons c t ih =>
    show (Jvm.Cond.and c (allAtoms t)).before a st = _
    rw [Jvm.Cond.before_and, ih, List.all_cons]
def words1 : List Jvm.Cond := Jvm.Cond.code x code maxLocals ret :: tables_1
/-- a 'code' word, met by the world's own term for the bytes: nothing is compared byte by byte -/
theorem code_word {y : MethodName} {bytes : ByteArray} {mx : Nat} {rt : Option FieldType} {a : Array Value} {s : State} {m : MethodId} {meth : Method} {c : Code} (h1 : s.methodNamed? y = some m) (h2 : s.vm.method? m = some meth) (h3 : meth.code = some c) (h4 : c.code = bytes)
    (h5 : (c.maxLocals == mx && c.exceptionTable.isEmpty && decide (c.maxStack ≤ mostOperands) && decide (meth.sig.returnType = rt) && !meth.locks && decide (parseMethodDescriptor y.desc = some meth.sig)) = true) : (Jvm.Cond.code y bytes mx rt).before a s = true := by
  simp only [Bool.and_eq_true, beq_iff_eq, Bool.not_eq_true', decide_eq_true_eq] at h5
  obtain ⟨⟨⟨⟨⟨g1, g2⟩, g3⟩, g4⟩, g5⟩, g6⟩ := h5
  simp [Cond.before, Cond.holds, Cond.value, h1, h2, h3, h4, g1, g2, g3, g4, g5, g6]
def isCode : Jvm.Cond → Bool
  | .code _ _ _ _ => true
  | _ => false
theorem all_split {L : List Jvm.Cond} {P : Jvm.Cond → Bool} (h1 : L.all (fun c => isCode c || P c) = true) (h2 : ∀ c ∈ L.filter isCode, P c = true) : L.all P = true := by
  refine List.all_eq_true.mpr fun c hc => ?_
  have h := List.all_eq_true.mp h1 c hc
  rcases Bool.eq_false_or_eq_true (isCode c) with hi | hi
  · exact h2 c (List.mem_filter.mpr ⟨hc, hi⟩)
  · simpa [hi] using h
set_option maxRecDepth 65536 in
theorem w_c0 : (Jvm.Cond.code x code maxLocals ret).before args0 about1 = true := code_word (m := ⟨1, 1⟩) (meth := k1m1) (c := k1c1) (by decide +kernel) rfl rfl rfl (by decide +kernel)
set_option maxRecDepth 65536 in
theorem w_c1 : (Jvm.Cond.code ({ cls := "com/example/refertario/refertario/hl7/MllpServer", name := "frame", desc := "([B)[B" } : Jvm.MethodName) prog_54_method_6_code (2 : Nat) (Option.some (Jvm.ClassFile.FieldType.array Jvm.ClassFile.FieldType.byte))).before args0 about1 = true := code_word (m := ⟨4, 0⟩) (meth := k4m0) (c := k4c0) (by decide +kernel) rfl rfl rfl (by decide +kernel)
def codes1 : List Jvm.Cond := [Jvm.Cond.code x code maxLocals ret, Jvm.Cond.code ({ cls := "com/example/refertario/refertario/hl7/MllpServer", name := "frame", desc := "([B)[B" } : Jvm.MethodName) prog_54_method_6_code (2 : Nat) (Option.some (Jvm.ClassFile.FieldType.array Jvm.ClassFile.FieldType.byte))]
set_option maxRecDepth 65536 in
theorem codes_eq : words1.filter isCode = codes1 := rfl
theorem w_codes : ∀ c ∈ words1.filter isCode, c.before args0 about1 = true := by
  rw [codes_eq]
  intro c hc
  simp only [codes1, List.mem_cons, List.not_mem_nil, or_false] at hc
  rcases hc with rfl | rfl
  · exact w_c0
  · exact w_c1
set_option maxRecDepth 65536 in
theorem w_t1 : words1.all (fun c => isCode c || c.before args0 about1) = true := by decide +kernel
theorem w_tables : (allAtoms (Jvm.Cond.code x code maxLocals ret :: tables_1)).before args0 about1 = true := by
  rw [allAtoms_all]
  show words1.all (fun c => c.before args0 about1) = true
  refine all_split ?_ w_codes
  rw [w_t1]
set_option maxRecDepth 65536 in
theorem w_case : (Jvm.Cond.and given_1 narrow_1).before args0 about1 = true := by decide +kernel
theorem w_applies : (headSpec (Jvm.Cond.code x code maxLocals ret :: tables_1) room_1).applies x e0.platform about1 = true :=
  (Spec.applies_iff w_frames).mpr ⟨w_running, w_runnable, w_alone, w_named, w_hears, w_ripe, w_room, w_tables⟩
theorem atStart : AtStart classFile x code maxLocals ret World_1 tables_1 room_1 Calls_1 rest_1 Pre_1 launch0 p0 e0 about1 theMethod args0 below0 :=
  ⟨lists_1, trivial, launch0.admits_env _ _ _, launch0.least_env, fairChoices_fair.cas, fairChoices_fair.clock, w_frames, w_args, w_heap, w_applies, trivial, trivial, w_case⟩
end start1
theorem witness_1 : WitnessClaimed_1 := ⟨start1.p0, start1.e0, start1.about1, start1.theMethod, start1.args0, start1.below0, start1.atStart⟩
end Jvm.Pilot.@@N@@
