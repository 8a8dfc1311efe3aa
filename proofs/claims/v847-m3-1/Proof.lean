import JvmDerived
import JvmDerived.Pilot.@@N@@Statement
import JvmDerived.Pilot.@@N@@Code
set_option linter.unusedVariables false
set_option linter.unusedSimpArgs false
namespace Jvm.Pilot.@@N@@
open Jvm Jvm.ClassFile Sem Op Lib Jvm.Free Jvm.Stand Jvm.LawKit Jvm.RoadKit Bundle Jvm.Pilot.@@N@@.Jvm.D
theorem own_w (i : Nat) {d : Jvm.Cond} (h : tables_1[i]? = some d) : d ∈ tables_1 := List.mem_of_getElem? h
def own_Go (p : Program) (e : Env) (below : List Frame) (A B : State) : Prop := ∀ t, Steps p.tables e below B t → Steps p.tables e below A t
section OwnKit
variable {p : Program} {l : Launch} {e : Env} {R : Room} {s : State} {m : MethodId} {args : Array Value} {below : List Frame} {meth : Method} {c : Code} {T : State} {locs : List Loc} {cells slots : Nat}
theorem retI (X : Stand p l e R s m args below meth c T locs cells slots) (hx : p.tables.exec = Jvm.exec) {pc : Nat} {Ls : Array Slot} {z : Int32} {rest : List Value} (hret : meth.sig.returnType = some .int) (hd : decode c.code pc = .ok (.ireturn, 1)) {fs : List Frame}
    (hl : ∀ (f : JFrame) (acts : List Action), f.method = m → f.locked = none → f.entered = [] → (doReturn e (T.setTop f) acts (some (.int z))).1 = T.setFrames fs) : Steps p.tables e below (T.setTop (mkF m pc Ls (.int z :: rest))) (T.setFrames fs) :=
  retOut X hx hret rfl (Or.inl ⟨rfl, Or.inl rfl, z, rfl⟩) hd hl
theorem own_retR (X : Stand p l e R s m args below meth c T locs cells slots) (hx : p.tables.exec = Jvm.exec) {pc : Nat} {Ls : Array Slot} {w : Value} {t : FieldType} {rest : List Value} (hret : meth.sig.returnType = some t) (ht : t.isReference = true) (hw : w.isRef = true) (hd : decode c.code pc = .ok (.areturn, 1)) {fs : List Frame}
    (hl : ∀ (f : JFrame) (acts : List Action), f.method = m → f.locked = none → f.entered = [] → (doReturn e (T.setTop f) acts (some w)).1 = T.setFrames fs) : Steps p.tables e below (T.setTop (mkF m pc Ls (w :: rest))) (T.setFrames fs) :=
  retOut X hx hret (by cases t <;> cases w <;> simp_all [FieldType.isReference, Value.isRef, narrow]) (Or.inr (Or.inr (Or.inr (Or.inr ⟨rfl, ht, hw⟩)))) hd hl
end OwnKit

theorem own_eqI {args : Array Value} {first s : State} {o : Option Outcome} {idx : List Nat} {t : Term} {k : Int32} (h : (Jvm.Cond.eq t (.int k)).value args first o s idx = some true) : t.eval args first o idx s = some (.int k) := by
  obtain ⟨x, y, h1, h2, h3, h4⟩ := cmp_v (Or.inl h)
  obtain rfl : y = .int k := by simpa [Term.eval] using h2.symm
  obtain ⟨z, rfl⟩ := h4
  simp [Cond.value, h1, h2] at h
  subst h
  exact h1

def own_lb (c : Int32) : Value := .int (nar .byte (c.toInt8.toInt32))
def own_hb (c : Int32) : Value := .int (nar .byte ((c >>> ((0 : Int32) &&& 31)).toInt8.toInt32))
def own_gb (c : Int32) : Value := .int (nar .byte ((c >>> ((8 : Int32) &&& 31)).toInt8.toInt32))
def own_ub : List Int32 → List Value
  | [] => []
  | c :: cs => own_hb c :: own_gb c :: own_ub cs
def own_len (cs : List Int32) : Int32 := Int32.ofNat cs.length
def own_len2 (cs : List Int32) : Int32 := Int32.ofNat (2 * cs.length)
def own_Lat : List Int32 → Prop
  | [] => True
  | c :: cs => (0 ≤ c.toInt ∧ c.toInt < 256) ∧ own_Lat cs
def own_Chr : List Int32 → Prop
  | [] => True
  | c :: cs => (0 ≤ c.toInt ∧ c.toInt < 65536) ∧ own_Chr cs
theorem own_ltOf {c : Int32} (h : ¬ (255 : Int32) < c) : c.toInt < 256 := by
  rw [Int32.lt_iff_toInt_lt, show (255 : Int32).toInt = 255 from rfl] at h
  omega
theorem own_fitAt {Z : State} {h : Heap} {a : Addr} {k : ClassId} {z c : Int32} {vs : List Value} {d : Value} (F : Arv Z h a k .char z vs d) (i : Nat) (hi : i < z.toNatClampNeg) (e : vs.getD i d = .int c) : 0 ≤ c.toInt ∧ c.toInt < 65536 := by
  obtain ⟨cl, -, -, S, -, -, G⟩ := F
  have q := G i (by rw [S]; exact hi)
  rw [e] at q
  have r := rng_char q
  rw [Int32.lt_iff_toInt_lt, Int32.lt_iff_toInt_lt, show (0 : Int32).toInt = 0 from rfl, show (65535 : Int32).toInt = 65535 from rfl] at r
  omega
def own_Str (Z : State) (h : Heap) (a vb : Addr) (kb : ClassId) (cs : List Int32) : Prop :=
  Exa Z h a "java/lang/String" ∧ Fld Z h a "java/lang/String" "value" "[B" (.ref vb) ∧
    ((Fld Z h a "java/lang/String" "coder" "B" (.int (0 : Int32)) ∧ own_Lat cs ∧ Arv Z h vb kb .byte (own_len cs) (cs.map own_lb) (.int (0 : Int32))) ∨
     (Fld Z h a "java/lang/String" "coder" "B" (.int (1 : Int32)) ∧ own_Chr cs ∧ Arv Z h vb kb .byte (own_len2 cs) (own_ub cs) (.int (0 : Int32))))
theorem own_Str.ext {Z : State} {h h' : Heap} {a vb : Addr} {kb : ClassId} {cs : List Int32} (F : own_Str Z h a vb kb cs) (E : Ext h h') : own_Str Z h' a vb kb cs := by
  obtain ⟨h1, h2, ⟨h3, h4, h5⟩ | ⟨h3, h4, h5⟩⟩ := F
  · exact ⟨h1.ext E, h2.ext E, Or.inl ⟨h3.ext E, h4, h5.ext E⟩⟩
  · exact ⟨h1.ext E, h2.ext E, Or.inr ⟨h3.ext E, h4, h5.ext E⟩⟩
theorem own_Str.keep {Z : State} {h h' : Heap} {a vb : Addr} {kb : ClassId} {cs : List Int32} {ws : List Addr} (F : own_Str Z h a vb kb cs) (K : Keep h h' ws) (n1 : a ∉ ws) (n2 : vb ∉ ws) : own_Str Z h' a vb kb cs := by
  obtain ⟨h1, h2, ⟨h3, h4, h5⟩ | ⟨h3, h4, h5⟩⟩ := F
  · exact ⟨h1.keep K, h2.keep K n1, Or.inl ⟨h3.keep K n1, h4, h5.keep K n2⟩⟩
  · exact ⟨h1.keep K, h2.keep K n1, Or.inr ⟨h3.keep K n1, h4, h5.keep K n2⟩⟩
theorem own_Str.lt0 {Z : State} {h : Heap} {a vb : Addr} {kb : ClassId} {cs : List Int32} (F : own_Str Z h a vb kb cs) : a < h.size := F.1.lt
theorem own_Str.lt1 {Z : State} {h : Heap} {a vb : Addr} {kb : ClassId} {cs : List Int32} (F : own_Str Z h a vb kb cs) : vb < h.size := by
  obtain ⟨h1, h2, ⟨h3, h4, h5⟩ | ⟨h3, h4, h5⟩⟩ := F
  · exact h5.lt
  · exact h5.lt
def own_gc (b0 b1 : Int32) : Int32 := nar .char ((((b0 &&& (255 : Int32)) <<< ((0 : Int32) &&& 31)) ||| ((b1 &&& (255 : Int32)) <<< ((8 : Int32) &&& 31))).toUInt32.toUInt16.toUInt32.toInt32)
def own_lc (u : Int32) : Int32 := nar .char ((u &&& (255 : Int32)).toUInt32.toUInt16.toUInt32.toInt32)
theorem own_narByte (x : Int32) : ((nar .byte x).toInt - x.toInt) % 256 = 0 := by
  have h := (c_i2b x).1
  show (x.toInt8.toInt32.toInt - x.toInt) % 256 = 0
  exact h
theorem own_narChar (x : Int32) (h0 : 0 ≤ x.toInt) (h1 : x.toInt < 65536) : nar .char x = x := by
  show x.toUInt32.toUInt16.toUInt32.toInt32 = x
  have h := c_i2c x
  exact Int32.toInt_inj.mp (by omega)
theorem own_i2c (x : Int32) (h0 : 0 ≤ x.toInt) (h1 : x.toInt < 65536) : x.toUInt32.toUInt16.toUInt32.toInt32 = x := own_narChar x h0 h1
theorem own_latget (c : Int32) (h : 0 ≤ c.toInt ∧ c.toInt < 256) : own_lc (nar .byte (c.toInt8.toInt32)) = c := by
  have h1 := own_narByte (c.toInt8.toInt32)
  have h2 := (c_i2b c).1
  have h3 := c_mask (nar .byte (c.toInt8.toInt32)) 255 8 (by decide) (by decide)
  have e : (nar .byte (c.toInt8.toInt32)) &&& (255 : Int32) = c := Int32.toInt_inj.mp (by omega)
  unfold own_lc
  rw [e, own_i2c c h.1 (by omega), own_narChar c h.1 (by omega)]
theorem own_utfget (c : Int32) (h : 0 ≤ c.toInt ∧ c.toInt < 65536) : own_gc (nar .byte ((c >>> ((0 : Int32) &&& 31)).toInt8.toInt32)) (nar .byte ((c >>> ((8 : Int32) &&& 31)).toInt8.toInt32)) = c := by
  have s0 := c_ishr c 0 0 (by decide)
  have s8 := c_ishr c 8 8 (by decide)
  have a1 := own_narByte ((c >>> ((0 : Int32) &&& 31)).toInt8.toInt32)
  have a2 := (c_i2b (c >>> ((0 : Int32) &&& 31))).1
  have b1 := own_narByte ((c >>> ((8 : Int32) &&& 31)).toInt8.toInt32)
  have b2 := (c_i2b (c >>> ((8 : Int32) &&& 31))).1
  unfold own_gc
  generalize nar .byte ((c >>> ((0 : Int32) &&& 31)).toInt8.toInt32) = x at *
  generalize nar .byte ((c >>> ((8 : Int32) &&& 31)).toInt8.toInt32) = y at *
  have m1 := c_mask x 255 8 (by decide) (by decide)
  have m2 := c_mask y 255 8 (by decide) (by decide)
  have t1 := c_ishl (x &&& 255) 0 0 (by decide)
  have t2 := c_ishl (y &&& 255) 8 8 (by decide)
  generalize (c >>> ((0 : Int32) &&& 31)).toInt8.toInt32 = u at *
  generalize (c >>> ((8 : Int32) &&& 31)).toInt8.toInt32 = v at *
  have r1 := rng32 ((x &&& 255) <<< ((0 : Int32) &&& 31))
  have r2 := rng32 ((y &&& 255) <<< ((8 : Int32) &&& 31))
  have r3 := rng32 (((x &&& 255) <<< ((0 : Int32) &&& 31)) ||| ((y &&& 255) <<< ((8 : Int32) &&& 31)))
  have o := c_or' ((x &&& 255) <<< ((0 : Int32) &&& 31)) ((y &&& 255) <<< ((8 : Int32) &&& 31)) 8 (by decide) 256 (by decide) (by omega) (by omega) (by omega)
  have e : ((x &&& 255) <<< ((0 : Int32) &&& 31)) ||| ((y &&& 255) <<< ((8 : Int32) &&& 31)) = c := Int32.toInt_inj.mp (by omega)
  rw [e, own_i2c c h.1 h.2, own_narChar c h.1 h.2]

theorem own_narChar2 (b0 b1 : Int32) : nar .char (own_gc b0 b1) = own_gc b0 b1 := by
  have h := c_i2c ((((b0 &&& (255 : Int32)) <<< ((0 : Int32) &&& 31)) ||| ((b1 &&& (255 : Int32)) <<< ((8 : Int32) &&& 31))).toUInt32.toUInt16.toUInt32.toInt32)
  exact own_narChar _ h.2.1 h.2.2

theorem d8_0 : decode jdk_52_method_21_code 0 = .ok (.iconst 0, 1) := by decide +kernel
theorem d8_1 : decode jdk_52_method_21_code 1 = .ok (.istore 5, 2) := by decide +kernel
theorem d8_3 : decode jdk_52_method_21_code 3 = .ok (.iload 5, 2) := by decide +kernel
theorem d8_5 : decode jdk_52_method_21_code 5 = .ok (.iload 4, 2) := by decide +kernel
theorem d8_7 : decode jdk_52_method_21_code 7 = .ok (.if_icmp .ge 37, 3) := by decide +kernel
theorem d8_10 : decode jdk_52_method_21_code 10 = .ok (.aload_n 0, 1) := by decide +kernel
theorem d8_11 : decode jdk_52_method_21_code 11 = .ok (.iload_n 1, 1) := by decide +kernel
theorem d8_12 : decode jdk_52_method_21_code 12 = .ok (.caload, 1) := by decide +kernel
theorem d8_13 : decode jdk_52_method_21_code 13 = .ok (.istore 6, 2) := by decide +kernel
theorem d8_15 : decode jdk_52_method_21_code 15 = .ok (.iload 6, 2) := by decide +kernel
theorem d8_17 : decode jdk_52_method_21_code 17 = .ok (.sipush 255, 3) := by decide +kernel
theorem d8_20 : decode jdk_52_method_21_code 20 = .ok (.if_icmp .le 6, 3) := by decide +kernel
theorem d8_23 : decode jdk_52_method_21_code 23 = .ok (.iload 5, 2) := by decide +kernel
theorem d8_25 : decode jdk_52_method_21_code 25 = .ok (.ireturn, 1) := by decide +kernel
theorem d8_26 : decode jdk_52_method_21_code 26 = .ok (.aload_n 2, 1) := by decide +kernel
theorem d8_27 : decode jdk_52_method_21_code 27 = .ok (.iload_n 3, 1) := by decide +kernel
theorem d8_28 : decode jdk_52_method_21_code 28 = .ok (.iload 6, 2) := by decide +kernel
theorem d8_30 : decode jdk_52_method_21_code 30 = .ok (.i2b, 1) := by decide +kernel
theorem d8_31 : decode jdk_52_method_21_code 31 = .ok (.bastore, 1) := by decide +kernel
theorem d8_32 : decode jdk_52_method_21_code 32 = .ok (.iinc 1 1, 3) := by decide +kernel
theorem d8_35 : decode jdk_52_method_21_code 35 = .ok (.iinc 3 1, 3) := by decide +kernel
theorem d8_38 : decode jdk_52_method_21_code 38 = .ok (.iinc 5 1, 3) := by decide +kernel
theorem d8_41 : decode jdk_52_method_21_code 41 = .ok (.goto (-38), 3) := by decide +kernel
theorem d8_44 : decode jdk_52_method_21_code 44 = .ok (.iload 4, 2) := by decide +kernel
theorem d8_46 : decode jdk_52_method_21_code 46 = .ok (.ireturn, 1) := by decide +kernel
theorem pn_8 : plainName "java/lang/StringUTF16" = true := by first | (simp [plainName, overriddenIn]; done) | decide +kernel
theorem ef_cmp5_4 (m : MethodId) (x0 : Addr) (x2 : Addr) : entryFrame m #[(.ref x0), (.int (0 : Int32)), (.ref x2), (.int (0 : Int32)), (.int (4 : Int32))] 7 = mkF m 0 #[.val (.ref x0), .val (.int (0 : Int32)), .val (.ref x2), .val (.int (0 : Int32)), .val (.int (4 : Int32)), .unset, .unset] [] := by first | (simp [entryFrame, mkF, argsToLocals, Value.category]; done) | rfl
def Qcmp5_4 (Z : State) (a1 : Addr) (a2 : Addr) (kc : ClassId) (kb : ClassId) (c0 : Int32) (c1 : Int32) (c2 : Int32) (c3 : Int32) (h0 : Heap) (n0 : Nat) (v : Option Value) (h : Heap) (L : List Loc) : Prop := ∃ r : Int32, v = (some (.int r)) ∧ Fr n0 L ∧ Keep h0 h [a2] ∧ ((r = (4 : Int32) ∧ own_Lat [c0, c1, c2, c3] ∧ Arv Z h a2 kb .byte (4 : Int32) [(.int (nar .byte (c0.toInt8.toInt32))), (.int (nar .byte (c1.toInt8.toInt32))), (.int (nar .byte (c2.toInt8.toInt32))), (.int (nar .byte (c3.toInt8.toInt32)))] (.int (0 : Int32))) ∨ (r = (0 : Int32) ∧ (255 : Int32) < c0) ∨ (r = (1 : Int32) ∧ (255 : Int32) < c1) ∨ (r = (2 : Int32) ∧ (255 : Int32) < c2) ∨ (r = (3 : Int32) ∧ (255 : Int32) < c3))
set_option maxRecDepth 65536 in
set_option maxHeartbeats 40000000 in
theorem rmcmp5_4 (l : Launch) (Z : State) (a0 : Array Value) (hw : ∀ d ∈ tables_1, d.before a0 Z = true) (ws : List Jvm.Cond) (a1 : Addr) (a2 : Addr) (kc : ClassId) (kb : ClassId) (c0 : Int32) (c1 : Int32) (c2 : Int32) (c3 : Int32) (h0 : Heap) (n0 : Nat) (Z0 : n0 ≤ h0.size) (VC : Arv Z h0 a1 kc .char (4 : Int32) [(.int c0), (.int c1), (.int c2), (.int c3)] (.int (0 : Int32))) (g2 : n0 ≤ a2) (VB : Arv Z h0 a2 kb .byte (4 : Int32) [(.int (0 : Int32)), (.int (0 : Int32)), (.int (0 : Int32)), (.int (0 : Int32))] (.int (0 : Int32))) (n12 : a1 ≠ a2) :
    MetFree l (⟨"java/lang/StringUTF16", "compress", "([CI[BII)I"⟩ : MethodName) (head1 (Jvm.Cond.code (⟨"java/lang/StringUTF16", "compress", "([CI[BII)I"⟩ : MethodName) jdk_52_method_21_code 7 (some .int) :: ws) ({ frames := 0, cells := 0, slots := 0, locals := 0 } : Room)) (fun a U => a = #[(.ref a1), (.int (0 : Int32)), (.ref a2), (.int (0 : Int32)), (.int (4 : Int32))] ∧ Z.Warmed39 U.vm ∧ U.heap = h0) (fun _ _ _ _ _ => True) (fun _ U o U' => ∃ v L, o = .returned v ∧ Qcmp5_4 Z a1 a2 kc kb c0 c1 c2 c3 h0 n0 v U'.heap L ∧ FrameEnd U o U' L ({ frames := 0, cells := 0, slots := 0, locals := 0 } : Room).cells ({ frames := 0, cells := 0, slots := 0, locals := 0 } : Room).slots) := by
  refine MetFree.of_bodySF (plainFor_of_name pn_8) hisR ?_
  intro p e s m args below meth c s₁ Bd hml0 hP hK
  obtain ⟨rfl, hZ, hh⟩ := hP
  have hx := Bd.exec
  have hby := Bd.bytes
  have hml : c.maxLocals = 7 := hml0
  have hown0 := findClass_of_methodNamed Bd.named
  have hown : s.vm.findClass "java/lang/StringUTF16" = some m.cls := hown0
  have hnm := (name_of_methodNamed Bd.named Bd.method).1
  have X0 : Stand p l e ({ frames := 0, cells := 0, slots := 0, locals := 0 } : Room) s m #[(.ref a1), (.int (0 : Int32)), (.ref a2), (.int (0 : Int32)), (.int (4 : Int32))] below meth c s₁ [] 0 0 := Stand.of_body Bd
  have e0 : s₁.heap = h0 := by rw [← hh, Bd.state]; rfl
  have N0 := Fr.nil n0
  obtain ⟨S0, hS0⟩ : ∃ z, z = s₁.setTop (entryFrame m #[(.ref a1), (.int (0 : Int32)), (.ref a2), (.int (0 : Int32)), (.int (4 : Int32))] 7) := ⟨_, rfl⟩
  have pre0 : own_Go p e below S0 (s₁.setTop (mkF m 0 #[.val (.ref a1), .val (.int (0 : Int32)), .val (.ref a2), .val (.int (0 : Int32)), .val (.int (4 : Int32)), .unset, .unset] [])) := fun t k => by rw [hS0]; exact castTop (ef_cmp5_4 m a1 a2) k
  have fin : ∀ t, Steps p.tables e below S0 t → Steps p.tables e below (s₁.setTop (entryFrame m #[(.ref a1), (.int (0 : Int32)), (.ref a2), (.int (0 : Int32)), (.int (4 : Int32))] 7)) t := fun t k => by rw [hS0] at k; exact k
  have kc0 : Keep h0 h0 [a2] := Keep.refl _ _
  have pre1 : own_Go p e below S0 (s₁.setTop (mkF m 12 #[.val (.ref a1), .val (.int (0 : Int32)), .val (.ref a2), .val (.int (0 : Int32)), .val (.int (4 : Int32)), .val (.int (0 : Int32)), .unset] [(.int (0 : Int32)), (.ref a1)])) := by
    intro t kt
    refine pre0 t ?_
    refine XS.iconst X0.here hx rfl (hb hby d8_0) ?_
    show Steps p.tables e below (s₁.setTop (mkF m 1 #[.val (.ref a1), .val (.int (0 : Int32)), .val (.ref a2), .val (.int (0 : Int32)), .val (.int (4 : Int32)), .unset, .unset] [(.int (0 : Int32))])) _
    refine XS.istore X0.here hx rfl (hb hby d8_1) rfl (l' := #[.val (.ref a1), .val (.int (0 : Int32)), .val (.ref a2), .val (.int (0 : Int32)), .val (.int (4 : Int32)), .val (.int (0 : Int32)), .unset]) rfl ?_
    show Steps p.tables e below (s₁.setTop (mkF m 3 #[.val (.ref a1), .val (.int (0 : Int32)), .val (.ref a2), .val (.int (0 : Int32)), .val (.int (4 : Int32)), .val (.int (0 : Int32)), .unset] [])) _
    refine XS.iload X0.here hx rfl (hb hby d8_3) rfl ?_
    show Steps p.tables e below (s₁.setTop (mkF m 5 #[.val (.ref a1), .val (.int (0 : Int32)), .val (.ref a2), .val (.int (0 : Int32)), .val (.int (4 : Int32)), .val (.int (0 : Int32)), .unset] [(.int (0 : Int32))])) _
    refine XS.iload X0.here hx rfl (hb hby d8_5) rfl ?_
    show Steps p.tables e below (s₁.setTop (mkF m 7 #[.val (.ref a1), .val (.int (0 : Int32)), .val (.ref a2), .val (.int (0 : Int32)), .val (.int (4 : Int32)), .val (.int (0 : Int32)), .unset] [(.int (4 : Int32)), (.int (0 : Int32))])) _
    refine XS.icmpNo X0.here hx rfl (hb hby d8_7) rfl (tlt (by decide : (0 : Int32) < (4 : Int32))).2.1 ?_
    show Steps p.tables e below (s₁.setTop (mkF m 10 #[.val (.ref a1), .val (.int (0 : Int32)), .val (.ref a2), .val (.int (0 : Int32)), .val (.int (4 : Int32)), .val (.int (0 : Int32)), .unset] [])) _
    refine XS.aloadN X0.here hx rfl (hb hby d8_10) rfl rfl ?_
    show Steps p.tables e below (s₁.setTop (mkF m 11 #[.val (.ref a1), .val (.int (0 : Int32)), .val (.ref a2), .val (.int (0 : Int32)), .val (.int (4 : Int32)), .val (.int (0 : Int32)), .unset] [(.ref a1)])) _
    refine XS.iloadN X0.here hx rfl (hb hby d8_11) rfl ?_
    show Steps p.tables e below (s₁.setTop (mkF m 12 #[.val (.ref a1), .val (.int (0 : Int32)), .val (.ref a2), .val (.int (0 : Int32)), .val (.int (4 : Int32)), .val (.int (0 : Int32)), .unset] [(.int (0 : Int32)), (.ref a1)])) _
    exact kt
  obtain ⟨cl2, Ar2, -, Sz2, -, Hs2, -⟩ := id VC
  have hin2 : ¬ ((0 : Int32) < 0 ∨ cl2.slots.size ≤ ((0 : Int32)).toNatClampNeg) := inb_of Sz2 ⟨by decide, by decide⟩
  have pre4 : own_Go p e below S0 (s₁.setTop (mkF m 20 #[.val (.ref a1), .val (.int (0 : Int32)), .val (.ref a2), .val (.int (0 : Int32)), .val (.int (4 : Int32)), .val (.int (0 : Int32)), .val (.int c0)] [(.int (255 : Int32)), (.int c0)])) := by
    intro t kt
    refine pre1 t ?_
    refine X0.caload hx (j := (0 : Int32)) (v := (.int c0)) (by rw [e0]; exact Ar2.1) (State.isArrayOf_alike hZ.alike Ar2.2.1) Ar2.2.2 hin2 (Hs2.at hin2 rfl) (g := (mkF m 12 #[.val (.ref a1), .val (.int (0 : Int32)), .val (.ref a2), .val (.int (0 : Int32)), .val (.int (4 : Int32)), .val (.int (0 : Int32)), .unset] [(.int (0 : Int32)), (.ref a1)])) rfl rfl (hb hby d8_12) _ ?_
    show Steps p.tables e below (s₁.setTop (mkF m 13 #[.val (.ref a1), .val (.int (0 : Int32)), .val (.ref a2), .val (.int (0 : Int32)), .val (.int (4 : Int32)), .val (.int (0 : Int32)), .unset] [(.int c0)])) _
    refine XS.istore X0.here hx rfl (hb hby d8_13) rfl (l' := #[.val (.ref a1), .val (.int (0 : Int32)), .val (.ref a2), .val (.int (0 : Int32)), .val (.int (4 : Int32)), .val (.int (0 : Int32)), .val (.int c0)]) rfl ?_
    show Steps p.tables e below (s₁.setTop (mkF m 15 #[.val (.ref a1), .val (.int (0 : Int32)), .val (.ref a2), .val (.int (0 : Int32)), .val (.int (4 : Int32)), .val (.int (0 : Int32)), .val (.int c0)] [])) _
    refine XS.iload X0.here hx rfl (hb hby d8_15) rfl ?_
    show Steps p.tables e below (s₁.setTop (mkF m 17 #[.val (.ref a1), .val (.int (0 : Int32)), .val (.ref a2), .val (.int (0 : Int32)), .val (.int (4 : Int32)), .val (.int (0 : Int32)), .val (.int c0)] [(.int c0)])) _
    refine XS.sipush X0.here hx rfl (hb hby d8_17) ?_
    show Steps p.tables e below (s₁.setTop (mkF m 20 #[.val (.ref a1), .val (.int (0 : Int32)), .val (.ref a2), .val (.int (0 : Int32)), .val (.int (4 : Int32)), .val (.int (0 : Int32)), .val (.int c0)] [(.int (255 : Int32)), (.int c0)])) _
    exact kt
  by_cases hc3 : (255 : Int32) < c0
  · have pre5 : own_Go p e below S0 (s₁.setTop (mkF m 25 #[.val (.ref a1), .val (.int (0 : Int32)), .val (.ref a2), .val (.int (0 : Int32)), .val (.int (4 : Int32)), .val (.int (0 : Int32)), .val (.int c0)] [(.int (0 : Int32))])) := by
      intro t kt
      refine pre4 t ?_
      refine XS.icmpNo X0.here hx rfl (hb hby d8_20) rfl (tlt hc3).2.2.2 ?_
      show Steps p.tables e below (s₁.setTop (mkF m 23 #[.val (.ref a1), .val (.int (0 : Int32)), .val (.ref a2), .val (.int (0 : Int32)), .val (.int (4 : Int32)), .val (.int (0 : Int32)), .val (.int c0)] [])) _
      refine XS.iload X0.here hx rfl (hb hby d8_23) rfl ?_
      show Steps p.tables e below (s₁.setTop (mkF m 25 #[.val (.ref a1), .val (.int (0 : Int32)), .val (.ref a2), .val (.int (0 : Int32)), .val (.int (4 : Int32)), .val (.int (0 : Int32)), .val (.int c0)] [(.int (0 : Int32))])) _
      exact kt
    obtain ⟨fs, hr, hrun, hended, hW, hsame⟩ := X0.leave (v := some (.int (0 : Int32))) (fun h => by rw [Bd.returns] at h; cases h)
    refine ⟨_, _, fin _ (pre5 _ ?_), hrun, hended, _, _, rfl, ?_, ⟨_, rfl⟩, hW, hsame.mono (by decide) (by decide)⟩
    · exact retI X0 hx Bd.returns (hb hby d8_25) hr
    · show Qcmp5_4 Z a1 a2 kc kb c0 c1 c2 c3 h0 n0 _ s₁.heap _
      rw [e0]
      exact ⟨(0 : Int32), rfl, N0, kc0, (Or.inr (Or.inl ⟨rfl, hc3⟩))⟩
  · have pre6 : own_Go p e below S0 (s₁.setTop (mkF m 31 #[.val (.ref a1), .val (.int (0 : Int32)), .val (.ref a2), .val (.int (0 : Int32)), .val (.int (4 : Int32)), .val (.int (0 : Int32)), .val (.int c0)] [(.int (c0.toInt8.toInt32)), (.int (0 : Int32)), (.ref a2)])) := by
      intro t kt
      refine pre4 t ?_
      refine XS.icmpYes X0.here hx rfl (pc0 := 20) (pc' := 26) rfl (hb hby d8_20) rfl (flt hc3).2.2.2 (by decide) (by decide) ?_
      show Steps p.tables e below (s₁.setTop (mkF m 26 #[.val (.ref a1), .val (.int (0 : Int32)), .val (.ref a2), .val (.int (0 : Int32)), .val (.int (4 : Int32)), .val (.int (0 : Int32)), .val (.int c0)] [])) _
      refine XS.aloadN X0.here hx rfl (hb hby d8_26) rfl rfl ?_
      show Steps p.tables e below (s₁.setTop (mkF m 27 #[.val (.ref a1), .val (.int (0 : Int32)), .val (.ref a2), .val (.int (0 : Int32)), .val (.int (4 : Int32)), .val (.int (0 : Int32)), .val (.int c0)] [(.ref a2)])) _
      refine XS.iloadN X0.here hx rfl (hb hby d8_27) rfl ?_
      show Steps p.tables e below (s₁.setTop (mkF m 28 #[.val (.ref a1), .val (.int (0 : Int32)), .val (.ref a2), .val (.int (0 : Int32)), .val (.int (4 : Int32)), .val (.int (0 : Int32)), .val (.int c0)] [(.int (0 : Int32)), (.ref a2)])) _
      refine XS.iload X0.here hx rfl (hb hby d8_28) rfl ?_
      show Steps p.tables e below (s₁.setTop (mkF m 30 #[.val (.ref a1), .val (.int (0 : Int32)), .val (.ref a2), .val (.int (0 : Int32)), .val (.int (4 : Int32)), .val (.int (0 : Int32)), .val (.int c0)] [(.int c0), (.int (0 : Int32)), (.ref a2)])) _
      refine XS.i2b X0.here hx rfl (hb hby d8_30) rfl ?_
      show Steps p.tables e below (s₁.setTop (mkF m 31 #[.val (.ref a1), .val (.int (0 : Int32)), .val (.ref a2), .val (.int (0 : Int32)), .val (.int (4 : Int32)), .val (.int (0 : Int32)), .val (.int c0)] [(.int (c0.toInt8.toInt32)), (.int (0 : Int32)), (.ref a2)])) _
      exact kt
    obtain ⟨cl7, Ar7, q7, Sz7, Ng7, Hs7, Gt7⟩ := id VB
    have hin7 : ¬ ((0 : Int32) < 0 ∨ cl7.slots.size ≤ ((0 : Int32)).toNatClampNeg) := inb_of Sz7 ⟨by decide, by decide⟩
    obtain ⟨T7, h7, X7, e7, W7, st7⟩ := stB X0 hx hZ e0 Ar7 (j := (0 : Int32)) hin7 (g := (mkF m 31 #[.val (.ref a1), .val (.int (0 : Int32)), .val (.ref a2), .val (.int (0 : Int32)), .val (.int (4 : Int32)), .val (.int (0 : Int32)), .val (.int c0)] [(.int (c0.toInt8.toInt32)), (.int (0 : Int32)), (.ref a2)])) rfl rfl (hb hby d8_31)
    have N7 := Fr.snoc X7 N0 g2
    have zs8 : n0 ≤ h7.size := Nat.le_trans Z0 (Keep.of_wr W7).1
    have kc9 : Keep h0 h7 [a2] := kc0.wr W7 (Or.inl (List.mem_of_getElem? (i := 0) rfl))
    have V7 : Arv Z h7 a2 kb .byte (4 : Int32) [(.int (nar .byte (c0.toInt8.toInt32))), (.int (0 : Int32)), (.int (0 : Int32)), (.int (0 : Int32))] (.int (0 : Int32)) := Arv.set Ar7 q7 Sz7 Ng7 Hs7 Gt7 (fits_nar_byte _) W7 0 rfl (Nat.le_of_ble_eq_true rfl)
    have pre10 : own_Go p e below S0 (T7.setTop (mkF m 12 #[.val (.ref a1), .val (.int (1 : Int32)), .val (.ref a2), .val (.int (1 : Int32)), .val (.int (4 : Int32)), .val (.int (1 : Int32)), .val (.int c0)] [(.int (1 : Int32)), (.ref a1)])) := by
      intro t kt
      refine pre6 t ?_
      refine st7 _ ?_
      show Steps p.tables e below (T7.setTop (mkF m 32 #[.val (.ref a1), .val (.int (0 : Int32)), .val (.ref a2), .val (.int (0 : Int32)), .val (.int (4 : Int32)), .val (.int (0 : Int32)), .val (.int c0)] [])) _
      refine XS.iinc X7.here hx rfl (hb hby d8_32) rfl (l' := #[.val (.ref a1), .val (.int (1 : Int32)), .val (.ref a2), .val (.int (0 : Int32)), .val (.int (4 : Int32)), .val (.int (0 : Int32)), .val (.int c0)]) rfl ?_
      show Steps p.tables e below (T7.setTop (mkF m 35 #[.val (.ref a1), .val (.int (1 : Int32)), .val (.ref a2), .val (.int (0 : Int32)), .val (.int (4 : Int32)), .val (.int (0 : Int32)), .val (.int c0)] [])) _
      refine XS.iinc X7.here hx rfl (hb hby d8_35) rfl (l' := #[.val (.ref a1), .val (.int (1 : Int32)), .val (.ref a2), .val (.int (1 : Int32)), .val (.int (4 : Int32)), .val (.int (0 : Int32)), .val (.int c0)]) rfl ?_
      show Steps p.tables e below (T7.setTop (mkF m 38 #[.val (.ref a1), .val (.int (1 : Int32)), .val (.ref a2), .val (.int (1 : Int32)), .val (.int (4 : Int32)), .val (.int (0 : Int32)), .val (.int c0)] [])) _
      refine XS.iinc X7.here hx rfl (hb hby d8_38) rfl (l' := #[.val (.ref a1), .val (.int (1 : Int32)), .val (.ref a2), .val (.int (1 : Int32)), .val (.int (4 : Int32)), .val (.int (1 : Int32)), .val (.int c0)]) rfl ?_
      show Steps p.tables e below (T7.setTop (mkF m 41 #[.val (.ref a1), .val (.int (1 : Int32)), .val (.ref a2), .val (.int (1 : Int32)), .val (.int (4 : Int32)), .val (.int (1 : Int32)), .val (.int c0)] [])) _
      refine XS.goto X7.here hx rfl (pc0 := 41) (pc' := 3) rfl (hb hby d8_41) (by decide) (by decide) ?_
      show Steps p.tables e below (T7.setTop (mkF m 3 #[.val (.ref a1), .val (.int (1 : Int32)), .val (.ref a2), .val (.int (1 : Int32)), .val (.int (4 : Int32)), .val (.int (1 : Int32)), .val (.int c0)] [])) _
      refine XS.iload X7.here hx rfl (hb hby d8_3) rfl ?_
      show Steps p.tables e below (T7.setTop (mkF m 5 #[.val (.ref a1), .val (.int (1 : Int32)), .val (.ref a2), .val (.int (1 : Int32)), .val (.int (4 : Int32)), .val (.int (1 : Int32)), .val (.int c0)] [(.int (1 : Int32))])) _
      refine XS.iload X7.here hx rfl (hb hby d8_5) rfl ?_
      show Steps p.tables e below (T7.setTop (mkF m 7 #[.val (.ref a1), .val (.int (1 : Int32)), .val (.ref a2), .val (.int (1 : Int32)), .val (.int (4 : Int32)), .val (.int (1 : Int32)), .val (.int c0)] [(.int (4 : Int32)), (.int (1 : Int32))])) _
      refine XS.icmpNo X7.here hx rfl (hb hby d8_7) rfl (tlt (by decide : (1 : Int32) < (4 : Int32))).2.1 ?_
      show Steps p.tables e below (T7.setTop (mkF m 10 #[.val (.ref a1), .val (.int (1 : Int32)), .val (.ref a2), .val (.int (1 : Int32)), .val (.int (4 : Int32)), .val (.int (1 : Int32)), .val (.int c0)] [])) _
      refine XS.aloadN X7.here hx rfl (hb hby d8_10) rfl rfl ?_
      show Steps p.tables e below (T7.setTop (mkF m 11 #[.val (.ref a1), .val (.int (1 : Int32)), .val (.ref a2), .val (.int (1 : Int32)), .val (.int (4 : Int32)), .val (.int (1 : Int32)), .val (.int c0)] [(.ref a1)])) _
      refine XS.iloadN X7.here hx rfl (hb hby d8_11) rfl ?_
      show Steps p.tables e below (T7.setTop (mkF m 12 #[.val (.ref a1), .val (.int (1 : Int32)), .val (.ref a2), .val (.int (1 : Int32)), .val (.int (4 : Int32)), .val (.int (1 : Int32)), .val (.int c0)] [(.int (1 : Int32)), (.ref a1)])) _
      exact kt
    have f11 : Arv Z h7 a1 kc .char (4 : Int32) [(.int c0), (.int c1), (.int c2), (.int c3)] (.int (0 : Int32)) := (VC.other W7 n12)
    obtain ⟨cl12, Ar12, -, Sz12, -, Hs12, -⟩ := id f11
    have hin12 : ¬ ((1 : Int32) < 0 ∨ cl12.slots.size ≤ ((1 : Int32)).toNatClampNeg) := inb_of Sz12 ⟨by decide, by decide⟩
    have pre14 : own_Go p e below S0 (T7.setTop (mkF m 20 #[.val (.ref a1), .val (.int (1 : Int32)), .val (.ref a2), .val (.int (1 : Int32)), .val (.int (4 : Int32)), .val (.int (1 : Int32)), .val (.int c1)] [(.int (255 : Int32)), (.int c1)])) := by
      intro t kt
      refine pre10 t ?_
      refine X7.caload hx (j := (1 : Int32)) (v := (.int c1)) (by rw [e7]; exact Ar12.1) (State.isArrayOf_alike hZ.alike Ar12.2.1) Ar12.2.2 hin12 (Hs12.at hin12 rfl) (g := (mkF m 12 #[.val (.ref a1), .val (.int (1 : Int32)), .val (.ref a2), .val (.int (1 : Int32)), .val (.int (4 : Int32)), .val (.int (1 : Int32)), .val (.int c0)] [(.int (1 : Int32)), (.ref a1)])) rfl rfl (hb hby d8_12) _ ?_
      show Steps p.tables e below (T7.setTop (mkF m 13 #[.val (.ref a1), .val (.int (1 : Int32)), .val (.ref a2), .val (.int (1 : Int32)), .val (.int (4 : Int32)), .val (.int (1 : Int32)), .val (.int c0)] [(.int c1)])) _
      refine XS.istore X7.here hx rfl (hb hby d8_13) rfl (l' := #[.val (.ref a1), .val (.int (1 : Int32)), .val (.ref a2), .val (.int (1 : Int32)), .val (.int (4 : Int32)), .val (.int (1 : Int32)), .val (.int c1)]) rfl ?_
      show Steps p.tables e below (T7.setTop (mkF m 15 #[.val (.ref a1), .val (.int (1 : Int32)), .val (.ref a2), .val (.int (1 : Int32)), .val (.int (4 : Int32)), .val (.int (1 : Int32)), .val (.int c1)] [])) _
      refine XS.iload X7.here hx rfl (hb hby d8_15) rfl ?_
      show Steps p.tables e below (T7.setTop (mkF m 17 #[.val (.ref a1), .val (.int (1 : Int32)), .val (.ref a2), .val (.int (1 : Int32)), .val (.int (4 : Int32)), .val (.int (1 : Int32)), .val (.int c1)] [(.int c1)])) _
      refine XS.sipush X7.here hx rfl (hb hby d8_17) ?_
      show Steps p.tables e below (T7.setTop (mkF m 20 #[.val (.ref a1), .val (.int (1 : Int32)), .val (.ref a2), .val (.int (1 : Int32)), .val (.int (4 : Int32)), .val (.int (1 : Int32)), .val (.int c1)] [(.int (255 : Int32)), (.int c1)])) _
      exact kt
    by_cases hc13 : (255 : Int32) < c1
    · have pre15 : own_Go p e below S0 (T7.setTop (mkF m 25 #[.val (.ref a1), .val (.int (1 : Int32)), .val (.ref a2), .val (.int (1 : Int32)), .val (.int (4 : Int32)), .val (.int (1 : Int32)), .val (.int c1)] [(.int (1 : Int32))])) := by
        intro t kt
        refine pre14 t ?_
        refine XS.icmpNo X7.here hx rfl (hb hby d8_20) rfl (tlt hc13).2.2.2 ?_
        show Steps p.tables e below (T7.setTop (mkF m 23 #[.val (.ref a1), .val (.int (1 : Int32)), .val (.ref a2), .val (.int (1 : Int32)), .val (.int (4 : Int32)), .val (.int (1 : Int32)), .val (.int c1)] [])) _
        refine XS.iload X7.here hx rfl (hb hby d8_23) rfl ?_
        show Steps p.tables e below (T7.setTop (mkF m 25 #[.val (.ref a1), .val (.int (1 : Int32)), .val (.ref a2), .val (.int (1 : Int32)), .val (.int (4 : Int32)), .val (.int (1 : Int32)), .val (.int c1)] [(.int (1 : Int32))])) _
        exact kt
      obtain ⟨fs, hr, hrun, hended, hW, hsame⟩ := X7.leave (v := some (.int (1 : Int32))) (fun h => by rw [Bd.returns] at h; cases h)
      refine ⟨_, _, fin _ (pre15 _ ?_), hrun, hended, _, _, rfl, ?_, ⟨_, rfl⟩, hW, hsame.mono (by decide) (by decide)⟩
      · exact retI X7 hx Bd.returns (hb hby d8_25) hr
      · show Qcmp5_4 Z a1 a2 kc kb c0 c1 c2 c3 h0 n0 _ T7.heap _
        rw [e7]
        exact ⟨(1 : Int32), rfl, N7, kc9, (Or.inr (Or.inr (Or.inl ⟨rfl, hc13⟩)))⟩
    · have pre16 : own_Go p e below S0 (T7.setTop (mkF m 31 #[.val (.ref a1), .val (.int (1 : Int32)), .val (.ref a2), .val (.int (1 : Int32)), .val (.int (4 : Int32)), .val (.int (1 : Int32)), .val (.int c1)] [(.int (c1.toInt8.toInt32)), (.int (1 : Int32)), (.ref a2)])) := by
        intro t kt
        refine pre14 t ?_
        refine XS.icmpYes X7.here hx rfl (pc0 := 20) (pc' := 26) rfl (hb hby d8_20) rfl (flt hc13).2.2.2 (by decide) (by decide) ?_
        show Steps p.tables e below (T7.setTop (mkF m 26 #[.val (.ref a1), .val (.int (1 : Int32)), .val (.ref a2), .val (.int (1 : Int32)), .val (.int (4 : Int32)), .val (.int (1 : Int32)), .val (.int c1)] [])) _
        refine XS.aloadN X7.here hx rfl (hb hby d8_26) rfl rfl ?_
        show Steps p.tables e below (T7.setTop (mkF m 27 #[.val (.ref a1), .val (.int (1 : Int32)), .val (.ref a2), .val (.int (1 : Int32)), .val (.int (4 : Int32)), .val (.int (1 : Int32)), .val (.int c1)] [(.ref a2)])) _
        refine XS.iloadN X7.here hx rfl (hb hby d8_27) rfl ?_
        show Steps p.tables e below (T7.setTop (mkF m 28 #[.val (.ref a1), .val (.int (1 : Int32)), .val (.ref a2), .val (.int (1 : Int32)), .val (.int (4 : Int32)), .val (.int (1 : Int32)), .val (.int c1)] [(.int (1 : Int32)), (.ref a2)])) _
        refine XS.iload X7.here hx rfl (hb hby d8_28) rfl ?_
        show Steps p.tables e below (T7.setTop (mkF m 30 #[.val (.ref a1), .val (.int (1 : Int32)), .val (.ref a2), .val (.int (1 : Int32)), .val (.int (4 : Int32)), .val (.int (1 : Int32)), .val (.int c1)] [(.int c1), (.int (1 : Int32)), (.ref a2)])) _
        refine XS.i2b X7.here hx rfl (hb hby d8_30) rfl ?_
        show Steps p.tables e below (T7.setTop (mkF m 31 #[.val (.ref a1), .val (.int (1 : Int32)), .val (.ref a2), .val (.int (1 : Int32)), .val (.int (4 : Int32)), .val (.int (1 : Int32)), .val (.int c1)] [(.int (c1.toInt8.toInt32)), (.int (1 : Int32)), (.ref a2)])) _
        exact kt
      obtain ⟨cl17, Ar17, q17, Sz17, Ng17, Hs17, Gt17⟩ := id V7
      have hin17 : ¬ ((1 : Int32) < 0 ∨ cl17.slots.size ≤ ((1 : Int32)).toNatClampNeg) := inb_of Sz17 ⟨by decide, by decide⟩
      obtain ⟨T17, h17, X17, e17, W17, st17⟩ := stB X7 hx hZ e7 Ar17 (j := (1 : Int32)) hin17 (g := (mkF m 31 #[.val (.ref a1), .val (.int (1 : Int32)), .val (.ref a2), .val (.int (1 : Int32)), .val (.int (4 : Int32)), .val (.int (1 : Int32)), .val (.int c1)] [(.int (c1.toInt8.toInt32)), (.int (1 : Int32)), (.ref a2)])) rfl rfl (hb hby d8_31)
      have N17 := Fr.snoc X17 N7 g2
      have zs18 : n0 ≤ h17.size := Nat.le_trans zs8 (Keep.of_wr W17).1
      have kc19 : Keep h0 h17 [a2] := kc9.wr W17 (Or.inl (List.mem_of_getElem? (i := 0) rfl))
      have V17 : Arv Z h17 a2 kb .byte (4 : Int32) [(.int (nar .byte (c0.toInt8.toInt32))), (.int (nar .byte (c1.toInt8.toInt32))), (.int (0 : Int32)), (.int (0 : Int32))] (.int (0 : Int32)) := Arv.set Ar17 q17 Sz17 Ng17 Hs17 Gt17 (fits_nar_byte _) W17 1 rfl (Nat.le_of_ble_eq_true rfl)
      have pre20 : own_Go p e below S0 (T17.setTop (mkF m 12 #[.val (.ref a1), .val (.int (2 : Int32)), .val (.ref a2), .val (.int (2 : Int32)), .val (.int (4 : Int32)), .val (.int (2 : Int32)), .val (.int c1)] [(.int (2 : Int32)), (.ref a1)])) := by
        intro t kt
        refine pre16 t ?_
        refine st17 _ ?_
        show Steps p.tables e below (T17.setTop (mkF m 32 #[.val (.ref a1), .val (.int (1 : Int32)), .val (.ref a2), .val (.int (1 : Int32)), .val (.int (4 : Int32)), .val (.int (1 : Int32)), .val (.int c1)] [])) _
        refine XS.iinc X17.here hx rfl (hb hby d8_32) rfl (l' := #[.val (.ref a1), .val (.int (2 : Int32)), .val (.ref a2), .val (.int (1 : Int32)), .val (.int (4 : Int32)), .val (.int (1 : Int32)), .val (.int c1)]) rfl ?_
        show Steps p.tables e below (T17.setTop (mkF m 35 #[.val (.ref a1), .val (.int (2 : Int32)), .val (.ref a2), .val (.int (1 : Int32)), .val (.int (4 : Int32)), .val (.int (1 : Int32)), .val (.int c1)] [])) _
        refine XS.iinc X17.here hx rfl (hb hby d8_35) rfl (l' := #[.val (.ref a1), .val (.int (2 : Int32)), .val (.ref a2), .val (.int (2 : Int32)), .val (.int (4 : Int32)), .val (.int (1 : Int32)), .val (.int c1)]) rfl ?_
        show Steps p.tables e below (T17.setTop (mkF m 38 #[.val (.ref a1), .val (.int (2 : Int32)), .val (.ref a2), .val (.int (2 : Int32)), .val (.int (4 : Int32)), .val (.int (1 : Int32)), .val (.int c1)] [])) _
        refine XS.iinc X17.here hx rfl (hb hby d8_38) rfl (l' := #[.val (.ref a1), .val (.int (2 : Int32)), .val (.ref a2), .val (.int (2 : Int32)), .val (.int (4 : Int32)), .val (.int (2 : Int32)), .val (.int c1)]) rfl ?_
        show Steps p.tables e below (T17.setTop (mkF m 41 #[.val (.ref a1), .val (.int (2 : Int32)), .val (.ref a2), .val (.int (2 : Int32)), .val (.int (4 : Int32)), .val (.int (2 : Int32)), .val (.int c1)] [])) _
        refine XS.goto X17.here hx rfl (pc0 := 41) (pc' := 3) rfl (hb hby d8_41) (by decide) (by decide) ?_
        show Steps p.tables e below (T17.setTop (mkF m 3 #[.val (.ref a1), .val (.int (2 : Int32)), .val (.ref a2), .val (.int (2 : Int32)), .val (.int (4 : Int32)), .val (.int (2 : Int32)), .val (.int c1)] [])) _
        refine XS.iload X17.here hx rfl (hb hby d8_3) rfl ?_
        show Steps p.tables e below (T17.setTop (mkF m 5 #[.val (.ref a1), .val (.int (2 : Int32)), .val (.ref a2), .val (.int (2 : Int32)), .val (.int (4 : Int32)), .val (.int (2 : Int32)), .val (.int c1)] [(.int (2 : Int32))])) _
        refine XS.iload X17.here hx rfl (hb hby d8_5) rfl ?_
        show Steps p.tables e below (T17.setTop (mkF m 7 #[.val (.ref a1), .val (.int (2 : Int32)), .val (.ref a2), .val (.int (2 : Int32)), .val (.int (4 : Int32)), .val (.int (2 : Int32)), .val (.int c1)] [(.int (4 : Int32)), (.int (2 : Int32))])) _
        refine XS.icmpNo X17.here hx rfl (hb hby d8_7) rfl (tlt (by decide : (2 : Int32) < (4 : Int32))).2.1 ?_
        show Steps p.tables e below (T17.setTop (mkF m 10 #[.val (.ref a1), .val (.int (2 : Int32)), .val (.ref a2), .val (.int (2 : Int32)), .val (.int (4 : Int32)), .val (.int (2 : Int32)), .val (.int c1)] [])) _
        refine XS.aloadN X17.here hx rfl (hb hby d8_10) rfl rfl ?_
        show Steps p.tables e below (T17.setTop (mkF m 11 #[.val (.ref a1), .val (.int (2 : Int32)), .val (.ref a2), .val (.int (2 : Int32)), .val (.int (4 : Int32)), .val (.int (2 : Int32)), .val (.int c1)] [(.ref a1)])) _
        refine XS.iloadN X17.here hx rfl (hb hby d8_11) rfl ?_
        show Steps p.tables e below (T17.setTop (mkF m 12 #[.val (.ref a1), .val (.int (2 : Int32)), .val (.ref a2), .val (.int (2 : Int32)), .val (.int (4 : Int32)), .val (.int (2 : Int32)), .val (.int c1)] [(.int (2 : Int32)), (.ref a1)])) _
        exact kt
      have f21 : Arv Z h17 a1 kc .char (4 : Int32) [(.int c0), (.int c1), (.int c2), (.int c3)] (.int (0 : Int32)) := (f11.other W17 n12)
      obtain ⟨cl22, Ar22, -, Sz22, -, Hs22, -⟩ := id f21
      have hin22 : ¬ ((2 : Int32) < 0 ∨ cl22.slots.size ≤ ((2 : Int32)).toNatClampNeg) := inb_of Sz22 ⟨by decide, by decide⟩
      have pre24 : own_Go p e below S0 (T17.setTop (mkF m 20 #[.val (.ref a1), .val (.int (2 : Int32)), .val (.ref a2), .val (.int (2 : Int32)), .val (.int (4 : Int32)), .val (.int (2 : Int32)), .val (.int c2)] [(.int (255 : Int32)), (.int c2)])) := by
        intro t kt
        refine pre20 t ?_
        refine X17.caload hx (j := (2 : Int32)) (v := (.int c2)) (by rw [e17]; exact Ar22.1) (State.isArrayOf_alike hZ.alike Ar22.2.1) Ar22.2.2 hin22 (Hs22.at hin22 rfl) (g := (mkF m 12 #[.val (.ref a1), .val (.int (2 : Int32)), .val (.ref a2), .val (.int (2 : Int32)), .val (.int (4 : Int32)), .val (.int (2 : Int32)), .val (.int c1)] [(.int (2 : Int32)), (.ref a1)])) rfl rfl (hb hby d8_12) _ ?_
        show Steps p.tables e below (T17.setTop (mkF m 13 #[.val (.ref a1), .val (.int (2 : Int32)), .val (.ref a2), .val (.int (2 : Int32)), .val (.int (4 : Int32)), .val (.int (2 : Int32)), .val (.int c1)] [(.int c2)])) _
        refine XS.istore X17.here hx rfl (hb hby d8_13) rfl (l' := #[.val (.ref a1), .val (.int (2 : Int32)), .val (.ref a2), .val (.int (2 : Int32)), .val (.int (4 : Int32)), .val (.int (2 : Int32)), .val (.int c2)]) rfl ?_
        show Steps p.tables e below (T17.setTop (mkF m 15 #[.val (.ref a1), .val (.int (2 : Int32)), .val (.ref a2), .val (.int (2 : Int32)), .val (.int (4 : Int32)), .val (.int (2 : Int32)), .val (.int c2)] [])) _
        refine XS.iload X17.here hx rfl (hb hby d8_15) rfl ?_
        show Steps p.tables e below (T17.setTop (mkF m 17 #[.val (.ref a1), .val (.int (2 : Int32)), .val (.ref a2), .val (.int (2 : Int32)), .val (.int (4 : Int32)), .val (.int (2 : Int32)), .val (.int c2)] [(.int c2)])) _
        refine XS.sipush X17.here hx rfl (hb hby d8_17) ?_
        show Steps p.tables e below (T17.setTop (mkF m 20 #[.val (.ref a1), .val (.int (2 : Int32)), .val (.ref a2), .val (.int (2 : Int32)), .val (.int (4 : Int32)), .val (.int (2 : Int32)), .val (.int c2)] [(.int (255 : Int32)), (.int c2)])) _
        exact kt
      by_cases hc23 : (255 : Int32) < c2
      · have pre25 : own_Go p e below S0 (T17.setTop (mkF m 25 #[.val (.ref a1), .val (.int (2 : Int32)), .val (.ref a2), .val (.int (2 : Int32)), .val (.int (4 : Int32)), .val (.int (2 : Int32)), .val (.int c2)] [(.int (2 : Int32))])) := by
          intro t kt
          refine pre24 t ?_
          refine XS.icmpNo X17.here hx rfl (hb hby d8_20) rfl (tlt hc23).2.2.2 ?_
          show Steps p.tables e below (T17.setTop (mkF m 23 #[.val (.ref a1), .val (.int (2 : Int32)), .val (.ref a2), .val (.int (2 : Int32)), .val (.int (4 : Int32)), .val (.int (2 : Int32)), .val (.int c2)] [])) _
          refine XS.iload X17.here hx rfl (hb hby d8_23) rfl ?_
          show Steps p.tables e below (T17.setTop (mkF m 25 #[.val (.ref a1), .val (.int (2 : Int32)), .val (.ref a2), .val (.int (2 : Int32)), .val (.int (4 : Int32)), .val (.int (2 : Int32)), .val (.int c2)] [(.int (2 : Int32))])) _
          exact kt
        obtain ⟨fs, hr, hrun, hended, hW, hsame⟩ := X17.leave (v := some (.int (2 : Int32))) (fun h => by rw [Bd.returns] at h; cases h)
        refine ⟨_, _, fin _ (pre25 _ ?_), hrun, hended, _, _, rfl, ?_, ⟨_, rfl⟩, hW, hsame.mono (by decide) (by decide)⟩
        · exact retI X17 hx Bd.returns (hb hby d8_25) hr
        · show Qcmp5_4 Z a1 a2 kc kb c0 c1 c2 c3 h0 n0 _ T17.heap _
          rw [e17]
          exact ⟨(2 : Int32), rfl, N17, kc19, (Or.inr (Or.inr (Or.inr (Or.inl ⟨rfl, hc23⟩))))⟩
      · have pre26 : own_Go p e below S0 (T17.setTop (mkF m 31 #[.val (.ref a1), .val (.int (2 : Int32)), .val (.ref a2), .val (.int (2 : Int32)), .val (.int (4 : Int32)), .val (.int (2 : Int32)), .val (.int c2)] [(.int (c2.toInt8.toInt32)), (.int (2 : Int32)), (.ref a2)])) := by
          intro t kt
          refine pre24 t ?_
          refine XS.icmpYes X17.here hx rfl (pc0 := 20) (pc' := 26) rfl (hb hby d8_20) rfl (flt hc23).2.2.2 (by decide) (by decide) ?_
          show Steps p.tables e below (T17.setTop (mkF m 26 #[.val (.ref a1), .val (.int (2 : Int32)), .val (.ref a2), .val (.int (2 : Int32)), .val (.int (4 : Int32)), .val (.int (2 : Int32)), .val (.int c2)] [])) _
          refine XS.aloadN X17.here hx rfl (hb hby d8_26) rfl rfl ?_
          show Steps p.tables e below (T17.setTop (mkF m 27 #[.val (.ref a1), .val (.int (2 : Int32)), .val (.ref a2), .val (.int (2 : Int32)), .val (.int (4 : Int32)), .val (.int (2 : Int32)), .val (.int c2)] [(.ref a2)])) _
          refine XS.iloadN X17.here hx rfl (hb hby d8_27) rfl ?_
          show Steps p.tables e below (T17.setTop (mkF m 28 #[.val (.ref a1), .val (.int (2 : Int32)), .val (.ref a2), .val (.int (2 : Int32)), .val (.int (4 : Int32)), .val (.int (2 : Int32)), .val (.int c2)] [(.int (2 : Int32)), (.ref a2)])) _
          refine XS.iload X17.here hx rfl (hb hby d8_28) rfl ?_
          show Steps p.tables e below (T17.setTop (mkF m 30 #[.val (.ref a1), .val (.int (2 : Int32)), .val (.ref a2), .val (.int (2 : Int32)), .val (.int (4 : Int32)), .val (.int (2 : Int32)), .val (.int c2)] [(.int c2), (.int (2 : Int32)), (.ref a2)])) _
          refine XS.i2b X17.here hx rfl (hb hby d8_30) rfl ?_
          show Steps p.tables e below (T17.setTop (mkF m 31 #[.val (.ref a1), .val (.int (2 : Int32)), .val (.ref a2), .val (.int (2 : Int32)), .val (.int (4 : Int32)), .val (.int (2 : Int32)), .val (.int c2)] [(.int (c2.toInt8.toInt32)), (.int (2 : Int32)), (.ref a2)])) _
          exact kt
        obtain ⟨cl27, Ar27, q27, Sz27, Ng27, Hs27, Gt27⟩ := id V17
        have hin27 : ¬ ((2 : Int32) < 0 ∨ cl27.slots.size ≤ ((2 : Int32)).toNatClampNeg) := inb_of Sz27 ⟨by decide, by decide⟩
        obtain ⟨T27, h27, X27, e27, W27, st27⟩ := stB X17 hx hZ e17 Ar27 (j := (2 : Int32)) hin27 (g := (mkF m 31 #[.val (.ref a1), .val (.int (2 : Int32)), .val (.ref a2), .val (.int (2 : Int32)), .val (.int (4 : Int32)), .val (.int (2 : Int32)), .val (.int c2)] [(.int (c2.toInt8.toInt32)), (.int (2 : Int32)), (.ref a2)])) rfl rfl (hb hby d8_31)
        have N27 := Fr.snoc X27 N17 g2
        have zs28 : n0 ≤ h27.size := Nat.le_trans zs18 (Keep.of_wr W27).1
        have kc29 : Keep h0 h27 [a2] := kc19.wr W27 (Or.inl (List.mem_of_getElem? (i := 0) rfl))
        have V27 : Arv Z h27 a2 kb .byte (4 : Int32) [(.int (nar .byte (c0.toInt8.toInt32))), (.int (nar .byte (c1.toInt8.toInt32))), (.int (nar .byte (c2.toInt8.toInt32))), (.int (0 : Int32))] (.int (0 : Int32)) := Arv.set Ar27 q27 Sz27 Ng27 Hs27 Gt27 (fits_nar_byte _) W27 2 rfl (Nat.le_of_ble_eq_true rfl)
        have pre30 : own_Go p e below S0 (T27.setTop (mkF m 12 #[.val (.ref a1), .val (.int (3 : Int32)), .val (.ref a2), .val (.int (3 : Int32)), .val (.int (4 : Int32)), .val (.int (3 : Int32)), .val (.int c2)] [(.int (3 : Int32)), (.ref a1)])) := by
          intro t kt
          refine pre26 t ?_
          refine st27 _ ?_
          show Steps p.tables e below (T27.setTop (mkF m 32 #[.val (.ref a1), .val (.int (2 : Int32)), .val (.ref a2), .val (.int (2 : Int32)), .val (.int (4 : Int32)), .val (.int (2 : Int32)), .val (.int c2)] [])) _
          refine XS.iinc X27.here hx rfl (hb hby d8_32) rfl (l' := #[.val (.ref a1), .val (.int (3 : Int32)), .val (.ref a2), .val (.int (2 : Int32)), .val (.int (4 : Int32)), .val (.int (2 : Int32)), .val (.int c2)]) rfl ?_
          show Steps p.tables e below (T27.setTop (mkF m 35 #[.val (.ref a1), .val (.int (3 : Int32)), .val (.ref a2), .val (.int (2 : Int32)), .val (.int (4 : Int32)), .val (.int (2 : Int32)), .val (.int c2)] [])) _
          refine XS.iinc X27.here hx rfl (hb hby d8_35) rfl (l' := #[.val (.ref a1), .val (.int (3 : Int32)), .val (.ref a2), .val (.int (3 : Int32)), .val (.int (4 : Int32)), .val (.int (2 : Int32)), .val (.int c2)]) rfl ?_
          show Steps p.tables e below (T27.setTop (mkF m 38 #[.val (.ref a1), .val (.int (3 : Int32)), .val (.ref a2), .val (.int (3 : Int32)), .val (.int (4 : Int32)), .val (.int (2 : Int32)), .val (.int c2)] [])) _
          refine XS.iinc X27.here hx rfl (hb hby d8_38) rfl (l' := #[.val (.ref a1), .val (.int (3 : Int32)), .val (.ref a2), .val (.int (3 : Int32)), .val (.int (4 : Int32)), .val (.int (3 : Int32)), .val (.int c2)]) rfl ?_
          show Steps p.tables e below (T27.setTop (mkF m 41 #[.val (.ref a1), .val (.int (3 : Int32)), .val (.ref a2), .val (.int (3 : Int32)), .val (.int (4 : Int32)), .val (.int (3 : Int32)), .val (.int c2)] [])) _
          refine XS.goto X27.here hx rfl (pc0 := 41) (pc' := 3) rfl (hb hby d8_41) (by decide) (by decide) ?_
          show Steps p.tables e below (T27.setTop (mkF m 3 #[.val (.ref a1), .val (.int (3 : Int32)), .val (.ref a2), .val (.int (3 : Int32)), .val (.int (4 : Int32)), .val (.int (3 : Int32)), .val (.int c2)] [])) _
          refine XS.iload X27.here hx rfl (hb hby d8_3) rfl ?_
          show Steps p.tables e below (T27.setTop (mkF m 5 #[.val (.ref a1), .val (.int (3 : Int32)), .val (.ref a2), .val (.int (3 : Int32)), .val (.int (4 : Int32)), .val (.int (3 : Int32)), .val (.int c2)] [(.int (3 : Int32))])) _
          refine XS.iload X27.here hx rfl (hb hby d8_5) rfl ?_
          show Steps p.tables e below (T27.setTop (mkF m 7 #[.val (.ref a1), .val (.int (3 : Int32)), .val (.ref a2), .val (.int (3 : Int32)), .val (.int (4 : Int32)), .val (.int (3 : Int32)), .val (.int c2)] [(.int (4 : Int32)), (.int (3 : Int32))])) _
          refine XS.icmpNo X27.here hx rfl (hb hby d8_7) rfl (tlt (by decide : (3 : Int32) < (4 : Int32))).2.1 ?_
          show Steps p.tables e below (T27.setTop (mkF m 10 #[.val (.ref a1), .val (.int (3 : Int32)), .val (.ref a2), .val (.int (3 : Int32)), .val (.int (4 : Int32)), .val (.int (3 : Int32)), .val (.int c2)] [])) _
          refine XS.aloadN X27.here hx rfl (hb hby d8_10) rfl rfl ?_
          show Steps p.tables e below (T27.setTop (mkF m 11 #[.val (.ref a1), .val (.int (3 : Int32)), .val (.ref a2), .val (.int (3 : Int32)), .val (.int (4 : Int32)), .val (.int (3 : Int32)), .val (.int c2)] [(.ref a1)])) _
          refine XS.iloadN X27.here hx rfl (hb hby d8_11) rfl ?_
          show Steps p.tables e below (T27.setTop (mkF m 12 #[.val (.ref a1), .val (.int (3 : Int32)), .val (.ref a2), .val (.int (3 : Int32)), .val (.int (4 : Int32)), .val (.int (3 : Int32)), .val (.int c2)] [(.int (3 : Int32)), (.ref a1)])) _
          exact kt
        have f31 : Arv Z h27 a1 kc .char (4 : Int32) [(.int c0), (.int c1), (.int c2), (.int c3)] (.int (0 : Int32)) := (f21.other W27 n12)
        obtain ⟨cl32, Ar32, -, Sz32, -, Hs32, -⟩ := id f31
        have hin32 : ¬ ((3 : Int32) < 0 ∨ cl32.slots.size ≤ ((3 : Int32)).toNatClampNeg) := inb_of Sz32 ⟨by decide, by decide⟩
        have pre34 : own_Go p e below S0 (T27.setTop (mkF m 20 #[.val (.ref a1), .val (.int (3 : Int32)), .val (.ref a2), .val (.int (3 : Int32)), .val (.int (4 : Int32)), .val (.int (3 : Int32)), .val (.int c3)] [(.int (255 : Int32)), (.int c3)])) := by
          intro t kt
          refine pre30 t ?_
          refine X27.caload hx (j := (3 : Int32)) (v := (.int c3)) (by rw [e27]; exact Ar32.1) (State.isArrayOf_alike hZ.alike Ar32.2.1) Ar32.2.2 hin32 (Hs32.at hin32 rfl) (g := (mkF m 12 #[.val (.ref a1), .val (.int (3 : Int32)), .val (.ref a2), .val (.int (3 : Int32)), .val (.int (4 : Int32)), .val (.int (3 : Int32)), .val (.int c2)] [(.int (3 : Int32)), (.ref a1)])) rfl rfl (hb hby d8_12) _ ?_
          show Steps p.tables e below (T27.setTop (mkF m 13 #[.val (.ref a1), .val (.int (3 : Int32)), .val (.ref a2), .val (.int (3 : Int32)), .val (.int (4 : Int32)), .val (.int (3 : Int32)), .val (.int c2)] [(.int c3)])) _
          refine XS.istore X27.here hx rfl (hb hby d8_13) rfl (l' := #[.val (.ref a1), .val (.int (3 : Int32)), .val (.ref a2), .val (.int (3 : Int32)), .val (.int (4 : Int32)), .val (.int (3 : Int32)), .val (.int c3)]) rfl ?_
          show Steps p.tables e below (T27.setTop (mkF m 15 #[.val (.ref a1), .val (.int (3 : Int32)), .val (.ref a2), .val (.int (3 : Int32)), .val (.int (4 : Int32)), .val (.int (3 : Int32)), .val (.int c3)] [])) _
          refine XS.iload X27.here hx rfl (hb hby d8_15) rfl ?_
          show Steps p.tables e below (T27.setTop (mkF m 17 #[.val (.ref a1), .val (.int (3 : Int32)), .val (.ref a2), .val (.int (3 : Int32)), .val (.int (4 : Int32)), .val (.int (3 : Int32)), .val (.int c3)] [(.int c3)])) _
          refine XS.sipush X27.here hx rfl (hb hby d8_17) ?_
          show Steps p.tables e below (T27.setTop (mkF m 20 #[.val (.ref a1), .val (.int (3 : Int32)), .val (.ref a2), .val (.int (3 : Int32)), .val (.int (4 : Int32)), .val (.int (3 : Int32)), .val (.int c3)] [(.int (255 : Int32)), (.int c3)])) _
          exact kt
        by_cases hc33 : (255 : Int32) < c3
        · have pre35 : own_Go p e below S0 (T27.setTop (mkF m 25 #[.val (.ref a1), .val (.int (3 : Int32)), .val (.ref a2), .val (.int (3 : Int32)), .val (.int (4 : Int32)), .val (.int (3 : Int32)), .val (.int c3)] [(.int (3 : Int32))])) := by
            intro t kt
            refine pre34 t ?_
            refine XS.icmpNo X27.here hx rfl (hb hby d8_20) rfl (tlt hc33).2.2.2 ?_
            show Steps p.tables e below (T27.setTop (mkF m 23 #[.val (.ref a1), .val (.int (3 : Int32)), .val (.ref a2), .val (.int (3 : Int32)), .val (.int (4 : Int32)), .val (.int (3 : Int32)), .val (.int c3)] [])) _
            refine XS.iload X27.here hx rfl (hb hby d8_23) rfl ?_
            show Steps p.tables e below (T27.setTop (mkF m 25 #[.val (.ref a1), .val (.int (3 : Int32)), .val (.ref a2), .val (.int (3 : Int32)), .val (.int (4 : Int32)), .val (.int (3 : Int32)), .val (.int c3)] [(.int (3 : Int32))])) _
            exact kt
          obtain ⟨fs, hr, hrun, hended, hW, hsame⟩ := X27.leave (v := some (.int (3 : Int32))) (fun h => by rw [Bd.returns] at h; cases h)
          refine ⟨_, _, fin _ (pre35 _ ?_), hrun, hended, _, _, rfl, ?_, ⟨_, rfl⟩, hW, hsame.mono (by decide) (by decide)⟩
          · exact retI X27 hx Bd.returns (hb hby d8_25) hr
          · show Qcmp5_4 Z a1 a2 kc kb c0 c1 c2 c3 h0 n0 _ T27.heap _
            rw [e27]
            exact ⟨(3 : Int32), rfl, N27, kc29, (Or.inr (Or.inr (Or.inr (Or.inr (⟨rfl, hc33⟩)))))⟩
        · have pre36 : own_Go p e below S0 (T27.setTop (mkF m 31 #[.val (.ref a1), .val (.int (3 : Int32)), .val (.ref a2), .val (.int (3 : Int32)), .val (.int (4 : Int32)), .val (.int (3 : Int32)), .val (.int c3)] [(.int (c3.toInt8.toInt32)), (.int (3 : Int32)), (.ref a2)])) := by
            intro t kt
            refine pre34 t ?_
            refine XS.icmpYes X27.here hx rfl (pc0 := 20) (pc' := 26) rfl (hb hby d8_20) rfl (flt hc33).2.2.2 (by decide) (by decide) ?_
            show Steps p.tables e below (T27.setTop (mkF m 26 #[.val (.ref a1), .val (.int (3 : Int32)), .val (.ref a2), .val (.int (3 : Int32)), .val (.int (4 : Int32)), .val (.int (3 : Int32)), .val (.int c3)] [])) _
            refine XS.aloadN X27.here hx rfl (hb hby d8_26) rfl rfl ?_
            show Steps p.tables e below (T27.setTop (mkF m 27 #[.val (.ref a1), .val (.int (3 : Int32)), .val (.ref a2), .val (.int (3 : Int32)), .val (.int (4 : Int32)), .val (.int (3 : Int32)), .val (.int c3)] [(.ref a2)])) _
            refine XS.iloadN X27.here hx rfl (hb hby d8_27) rfl ?_
            show Steps p.tables e below (T27.setTop (mkF m 28 #[.val (.ref a1), .val (.int (3 : Int32)), .val (.ref a2), .val (.int (3 : Int32)), .val (.int (4 : Int32)), .val (.int (3 : Int32)), .val (.int c3)] [(.int (3 : Int32)), (.ref a2)])) _
            refine XS.iload X27.here hx rfl (hb hby d8_28) rfl ?_
            show Steps p.tables e below (T27.setTop (mkF m 30 #[.val (.ref a1), .val (.int (3 : Int32)), .val (.ref a2), .val (.int (3 : Int32)), .val (.int (4 : Int32)), .val (.int (3 : Int32)), .val (.int c3)] [(.int c3), (.int (3 : Int32)), (.ref a2)])) _
            refine XS.i2b X27.here hx rfl (hb hby d8_30) rfl ?_
            show Steps p.tables e below (T27.setTop (mkF m 31 #[.val (.ref a1), .val (.int (3 : Int32)), .val (.ref a2), .val (.int (3 : Int32)), .val (.int (4 : Int32)), .val (.int (3 : Int32)), .val (.int c3)] [(.int (c3.toInt8.toInt32)), (.int (3 : Int32)), (.ref a2)])) _
            exact kt
          obtain ⟨cl37, Ar37, q37, Sz37, Ng37, Hs37, Gt37⟩ := id V27
          have hin37 : ¬ ((3 : Int32) < 0 ∨ cl37.slots.size ≤ ((3 : Int32)).toNatClampNeg) := inb_of Sz37 ⟨by decide, by decide⟩
          obtain ⟨T37, h37, X37, e37, W37, st37⟩ := stB X27 hx hZ e27 Ar37 (j := (3 : Int32)) hin37 (g := (mkF m 31 #[.val (.ref a1), .val (.int (3 : Int32)), .val (.ref a2), .val (.int (3 : Int32)), .val (.int (4 : Int32)), .val (.int (3 : Int32)), .val (.int c3)] [(.int (c3.toInt8.toInt32)), (.int (3 : Int32)), (.ref a2)])) rfl rfl (hb hby d8_31)
          have N37 := Fr.snoc X37 N27 g2
          have zs38 : n0 ≤ h37.size := Nat.le_trans zs28 (Keep.of_wr W37).1
          have kc39 : Keep h0 h37 [a2] := kc29.wr W37 (Or.inl (List.mem_of_getElem? (i := 0) rfl))
          have V37 : Arv Z h37 a2 kb .byte (4 : Int32) [(.int (nar .byte (c0.toInt8.toInt32))), (.int (nar .byte (c1.toInt8.toInt32))), (.int (nar .byte (c2.toInt8.toInt32))), (.int (nar .byte (c3.toInt8.toInt32)))] (.int (0 : Int32)) := Arv.set Ar37 q37 Sz37 Ng37 Hs37 Gt37 (fits_nar_byte _) W37 3 rfl (Nat.le_of_ble_eq_true rfl)
          have pre40 : own_Go p e below S0 (T37.setTop (mkF m 46 #[.val (.ref a1), .val (.int (4 : Int32)), .val (.ref a2), .val (.int (4 : Int32)), .val (.int (4 : Int32)), .val (.int (4 : Int32)), .val (.int c3)] [(.int (4 : Int32))])) := by
            intro t kt
            refine pre36 t ?_
            refine st37 _ ?_
            show Steps p.tables e below (T37.setTop (mkF m 32 #[.val (.ref a1), .val (.int (3 : Int32)), .val (.ref a2), .val (.int (3 : Int32)), .val (.int (4 : Int32)), .val (.int (3 : Int32)), .val (.int c3)] [])) _
            refine XS.iinc X37.here hx rfl (hb hby d8_32) rfl (l' := #[.val (.ref a1), .val (.int (4 : Int32)), .val (.ref a2), .val (.int (3 : Int32)), .val (.int (4 : Int32)), .val (.int (3 : Int32)), .val (.int c3)]) rfl ?_
            show Steps p.tables e below (T37.setTop (mkF m 35 #[.val (.ref a1), .val (.int (4 : Int32)), .val (.ref a2), .val (.int (3 : Int32)), .val (.int (4 : Int32)), .val (.int (3 : Int32)), .val (.int c3)] [])) _
            refine XS.iinc X37.here hx rfl (hb hby d8_35) rfl (l' := #[.val (.ref a1), .val (.int (4 : Int32)), .val (.ref a2), .val (.int (4 : Int32)), .val (.int (4 : Int32)), .val (.int (3 : Int32)), .val (.int c3)]) rfl ?_
            show Steps p.tables e below (T37.setTop (mkF m 38 #[.val (.ref a1), .val (.int (4 : Int32)), .val (.ref a2), .val (.int (4 : Int32)), .val (.int (4 : Int32)), .val (.int (3 : Int32)), .val (.int c3)] [])) _
            refine XS.iinc X37.here hx rfl (hb hby d8_38) rfl (l' := #[.val (.ref a1), .val (.int (4 : Int32)), .val (.ref a2), .val (.int (4 : Int32)), .val (.int (4 : Int32)), .val (.int (4 : Int32)), .val (.int c3)]) rfl ?_
            show Steps p.tables e below (T37.setTop (mkF m 41 #[.val (.ref a1), .val (.int (4 : Int32)), .val (.ref a2), .val (.int (4 : Int32)), .val (.int (4 : Int32)), .val (.int (4 : Int32)), .val (.int c3)] [])) _
            refine XS.goto X37.here hx rfl (pc0 := 41) (pc' := 3) rfl (hb hby d8_41) (by decide) (by decide) ?_
            show Steps p.tables e below (T37.setTop (mkF m 3 #[.val (.ref a1), .val (.int (4 : Int32)), .val (.ref a2), .val (.int (4 : Int32)), .val (.int (4 : Int32)), .val (.int (4 : Int32)), .val (.int c3)] [])) _
            refine XS.iload X37.here hx rfl (hb hby d8_3) rfl ?_
            show Steps p.tables e below (T37.setTop (mkF m 5 #[.val (.ref a1), .val (.int (4 : Int32)), .val (.ref a2), .val (.int (4 : Int32)), .val (.int (4 : Int32)), .val (.int (4 : Int32)), .val (.int c3)] [(.int (4 : Int32))])) _
            refine XS.iload X37.here hx rfl (hb hby d8_5) rfl ?_
            show Steps p.tables e below (T37.setTop (mkF m 7 #[.val (.ref a1), .val (.int (4 : Int32)), .val (.ref a2), .val (.int (4 : Int32)), .val (.int (4 : Int32)), .val (.int (4 : Int32)), .val (.int c3)] [(.int (4 : Int32)), (.int (4 : Int32))])) _
            refine XS.icmpYes X37.here hx rfl (pc0 := 7) (pc' := 44) rfl (hb hby d8_7) rfl (flt (by decide : ¬ ((4 : Int32) < (4 : Int32)))).2.1 (by decide) (by decide) ?_
            show Steps p.tables e below (T37.setTop (mkF m 44 #[.val (.ref a1), .val (.int (4 : Int32)), .val (.ref a2), .val (.int (4 : Int32)), .val (.int (4 : Int32)), .val (.int (4 : Int32)), .val (.int c3)] [])) _
            refine XS.iload X37.here hx rfl (hb hby d8_44) rfl ?_
            show Steps p.tables e below (T37.setTop (mkF m 46 #[.val (.ref a1), .val (.int (4 : Int32)), .val (.ref a2), .val (.int (4 : Int32)), .val (.int (4 : Int32)), .val (.int (4 : Int32)), .val (.int c3)] [(.int (4 : Int32))])) _
            exact kt
          obtain ⟨fs, hr, hrun, hended, hW, hsame⟩ := X37.leave (v := some (.int (4 : Int32))) (fun h => by rw [Bd.returns] at h; cases h)
          refine ⟨_, _, fin _ (pre40 _ ?_), hrun, hended, _, _, rfl, ?_, ⟨_, rfl⟩, hW, hsame.mono (by decide) (by decide)⟩
          · exact retI X37 hx Bd.returns (hb hby d8_46) hr
          · show Qcmp5_4 Z a1 a2 kc kb c0 c1 c2 c3 h0 n0 _ T37.heap _
            rw [e37]
            exact ⟨(4 : Int32), rfl, N37, kc39, (Or.inl ⟨rfl, ⟨⟨(own_fitAt VC 0 (by decide) rfl).1, own_ltOf hc3⟩, ⟨⟨(own_fitAt VC 1 (by decide) rfl).1, own_ltOf hc13⟩, ⟨⟨(own_fitAt VC 2 (by decide) rfl).1, own_ltOf hc23⟩, ⟨⟨(own_fitAt VC 3 (by decide) rfl).1, own_ltOf hc33⟩, trivial⟩⟩⟩⟩, V37⟩)⟩

theorem d19_0 : decode jdk_52_method_3_code 0 = .ok (.iload_n 0, 1) := by decide +kernel
theorem d19_1 : decode jdk_52_method_3_code 1 = .ok (.ifCond .ge 11, 3) := by decide +kernel
theorem d19_12 : decode jdk_52_method_3_code 12 = .ok (.iload_n 0, 1) := by decide +kernel
theorem d19_13 : decode jdk_52_method_3_code 13 = .ok (.ldc 20, 2) := by decide +kernel
theorem d19_15 : decode jdk_52_method_3_code 15 = .ok (.if_icmp .lt 40, 3) := by decide +kernel
theorem d19_55 : decode jdk_52_method_3_code 55 = .ok (.iload_n 0, 1) := by decide +kernel
theorem d19_56 : decode jdk_52_method_3_code 56 = .ok (.iconst 1, 1) := by decide +kernel
theorem d19_57 : decode jdk_52_method_3_code 57 = .ok (.ishl, 1) := by decide +kernel
theorem d19_58 : decode jdk_52_method_3_code 58 = .ok (.ireturn, 1) := by decide +kernel
theorem pn_19 : plainName "java/lang/StringUTF16" = true := by first | (simp [plainName, overriddenIn]; done) | decide +kernel
theorem ef_nlen_4 (m : MethodId)  : entryFrame m #[(.int (4 : Int32))] 1 = mkF m 0 #[.val (.int (4 : Int32))] [] := by first | (simp [entryFrame, mkF, argsToLocals, Value.category]; done) | rfl
def Qnlen_4 (Z : State)  (h0 : Heap) (n0 : Nat) (v : Option Value) (h : Heap) (L : List Loc) : Prop := v = (some (.int (8 : Int32))) ∧ Fr n0 L ∧ h = h0
set_option maxRecDepth 65536 in
set_option maxHeartbeats 40000000 in
theorem rmnlen_4 (l : Launch) (Z : State) (a0 : Array Value) (hw : ∀ d ∈ tables_1, d.before a0 Z = true) (ws : List Jvm.Cond)  (h0 : Heap) (n0 : Nat) (Z0 : n0 ≤ h0.size) :
    MetFree l (⟨"java/lang/StringUTF16", "newBytesLength", "(I)I"⟩ : MethodName) (head1 (Jvm.Cond.code (⟨"java/lang/StringUTF16", "newBytesLength", "(I)I"⟩ : MethodName) jdk_52_method_3_code 1 (some .int) :: ws) ({ frames := 0, cells := 0, slots := 0, locals := 0 } : Room)) (fun a U => a = #[(.int (4 : Int32))] ∧ Z.Warmed39 U.vm ∧ U.heap = h0) (fun _ _ _ _ _ => True) (fun _ U o U' => ∃ v L, o = .returned v ∧ Qnlen_4 Z  h0 n0 v U'.heap L ∧ FrameEnd U o U' L ({ frames := 0, cells := 0, slots := 0, locals := 0 } : Room).cells ({ frames := 0, cells := 0, slots := 0, locals := 0 } : Room).slots) := by
  refine MetFree.of_bodySF (plainFor_of_name pn_19) hisR ?_
  intro p e s m args below meth c s₁ Bd hml0 hP hK
  obtain ⟨rfl, hZ, hh⟩ := hP
  have hx := Bd.exec
  have hby := Bd.bytes
  have hml : c.maxLocals = 1 := hml0
  have hown0 := findClass_of_methodNamed Bd.named
  have hown : s.vm.findClass "java/lang/StringUTF16" = some m.cls := hown0
  have hnm := (name_of_methodNamed Bd.named Bd.method).1
  have X0 : Stand p l e ({ frames := 0, cells := 0, slots := 0, locals := 0 } : Room) s m #[(.int (4 : Int32))] below meth c s₁ [] 0 0 := Stand.of_body Bd
  have e0 : s₁.heap = h0 := by rw [← hh, Bd.state]; rfl
  have N0 := Fr.nil n0
  obtain ⟨S0, hS0⟩ : ∃ z, z = s₁.setTop (entryFrame m #[(.int (4 : Int32))] 1) := ⟨_, rfl⟩
  have pre0 : own_Go p e below S0 (s₁.setTop (mkF m 0 #[.val (.int (4 : Int32))] [])) := fun t k => by rw [hS0]; exact castTop (ef_nlen_4 m ) k
  have fin : ∀ t, Steps p.tables e below S0 t → Steps p.tables e below (s₁.setTop (entryFrame m #[(.int (4 : Int32))] 1)) t := fun t k => by rw [hS0] at k; exact k
  have pre1 : own_Go p e below S0 (s₁.setTop (mkF m 58 #[.val (.int (4 : Int32))] [(.int (8 : Int32))])) := by
    intro t kt
    refine pre0 t ?_
    refine XS.iloadN X0.here hx rfl (hb hby d19_0) rfl ?_
    show Steps p.tables e below (s₁.setTop (mkF m 1 #[.val (.int (4 : Int32))] [(.int (4 : Int32))])) _
    refine XS.ifYes X0.here hx rfl (pc0 := 1) (pc' := 12) rfl (hb hby d19_1) rfl ((if0 _ _).trans (flt (by decide : ¬ ((4 : Int32) < (0 : Int32)))).2.1) (by decide) (by decide) ?_
    show Steps p.tables e below (s₁.setTop (mkF m 12 #[.val (.int (4 : Int32))] [])) _
    refine XS.iloadN X0.here hx rfl (hb hby d19_12) rfl ?_
    show Steps p.tables e below (s₁.setTop (mkF m 13 #[.val (.int (4 : Int32))] [(.int (4 : Int32))])) _
    refine X0.ldcInt hx hown (mvT hZ (hw _ (own_w 98 rfl))) (g := (mkF m 13 #[.val (.int (4 : Int32))] [(.int (4 : Int32))])) rfl (hb hby d19_13) _ ?_
    show Steps p.tables e below (s₁.setTop (mkF m 15 #[.val (.int (4 : Int32))] [(.int (1073741823 : Int32)), (.int (4 : Int32))])) _
    refine XS.icmpYes X0.here hx rfl (pc0 := 15) (pc' := 55) rfl (hb hby d19_15) rfl (tlt (by decide : (4 : Int32) < (1073741823 : Int32))).1 (by decide) (by decide) ?_
    show Steps p.tables e below (s₁.setTop (mkF m 55 #[.val (.int (4 : Int32))] [])) _
    refine XS.iloadN X0.here hx rfl (hb hby d19_55) rfl ?_
    show Steps p.tables e below (s₁.setTop (mkF m 56 #[.val (.int (4 : Int32))] [(.int (4 : Int32))])) _
    refine XS.iconst X0.here hx rfl (hb hby d19_56) ?_
    show Steps p.tables e below (s₁.setTop (mkF m 57 #[.val (.int (4 : Int32))] [(.int (1 : Int32)), (.int (4 : Int32))])) _
    refine XS.ishl X0.here hx rfl (hb hby d19_57) rfl ?_
    show Steps p.tables e below (s₁.setTop (mkF m 58 #[.val (.int (4 : Int32))] [(.int (8 : Int32))])) _
    exact kt
  obtain ⟨fs, hr, hrun, hended, hW, hsame⟩ := X0.leave (v := some (.int (8 : Int32))) (fun h => by rw [Bd.returns] at h; cases h)
  refine ⟨_, _, fin _ (pre1 _ ?_), hrun, hended, _, _, rfl, ?_, ⟨_, rfl⟩, hW, hsame.mono (by decide) (by decide)⟩
  · exact retI X0 hx Bd.returns (hb hby d19_58) hr
  · show Qnlen_4 Z  h0 n0 _ s₁.heap _
    rw [e0]
    exact ⟨rfl, N0, rfl⟩

theorem d18_0 : decode jdk_52_method_2_code 0 = .ok (.iload_n 0, 1) := by decide +kernel
theorem d18_1 : decode jdk_52_method_2_code 1 = .ok (.invokestatic 11, 3) := by decide +kernel
theorem d18_4 : decode jdk_52_method_2_code 4 = .ok (.newarray .byte, 2) := by decide +kernel
theorem d18_6 : decode jdk_52_method_2_code 6 = .ok (.areturn, 1) := by decide +kernel
theorem pn_18 : plainName "java/lang/StringUTF16" = true := by first | (simp [plainName, overriddenIn]; done) | decide +kernel
theorem pd_0 : parseMethodDescriptor "(I)I" = some ⟨[.int], some .int⟩ := by decide +kernel
theorem ef_nfor_4 (m : MethodId)  : entryFrame m #[(.int (4 : Int32))] 1 = mkF m 0 #[.val (.int (4 : Int32))] [] := by first | (simp [entryFrame, mkF, argsToLocals, Value.category]; done) | rfl
def Qnfor_4 (Z : State)  (h0 : Heap) (n0 : Nat) (v : Option Value) (h : Heap) (L : List Loc) : Prop := ∃ b : Addr, ∃ kb : ClassId, v = (some (.ref b)) ∧ Fr n0 L ∧ Keep h0 h [] ∧ h0.size ≤ b ∧ Arv Z h b kb .byte (8 : Int32) [(.int (0 : Int32)), (.int (0 : Int32)), (.int (0 : Int32)), (.int (0 : Int32)), (.int (0 : Int32)), (.int (0 : Int32)), (.int (0 : Int32)), (.int (0 : Int32))] (.int (0 : Int32))
set_option maxRecDepth 65536 in
set_option maxHeartbeats 40000000 in
theorem rmnfor_4 (l : Launch) (Z : State) (a0 : Array Value) (hw : ∀ d ∈ tables_1, d.before a0 Z = true) (ws : List Jvm.Cond)  (h0 : Heap) (n0 : Nat) (Z0 : n0 ≤ h0.size) :
    MetFree l (⟨"java/lang/StringUTF16", "newBytesFor", "(I)[B"⟩ : MethodName) (head1 (Jvm.Cond.code (⟨"java/lang/StringUTF16", "newBytesFor", "(I)[B"⟩ : MethodName) jdk_52_method_2_code 1 (some (.array .byte)) :: ws) ({ frames := 1, cells := 1, slots := 8, locals := 12 } : Room)) (fun a U => a = #[(.int (4 : Int32))] ∧ Z.Warmed39 U.vm ∧ U.heap = h0) (fun _ _ _ _ _ => True) (fun _ U o U' => ∃ v L, o = .returned v ∧ Qnfor_4 Z  h0 n0 v U'.heap L ∧ FrameEnd U o U' L ({ frames := 1, cells := 1, slots := 8, locals := 12 } : Room).cells ({ frames := 1, cells := 1, slots := 8, locals := 12 } : Room).slots) := by
  refine MetFree.of_bodySF (plainFor_of_name pn_18) hisR ?_
  intro p e s m args below meth c s₁ Bd hml0 hP hK
  obtain ⟨rfl, hZ, hh⟩ := hP
  have hx := Bd.exec
  have hby := Bd.bytes
  have hml : c.maxLocals = 1 := hml0
  have hown0 := findClass_of_methodNamed Bd.named
  have hown : s.vm.findClass "java/lang/StringUTF16" = some m.cls := hown0
  have hnm := (name_of_methodNamed Bd.named Bd.method).1
  have X0 : Stand p l e ({ frames := 1, cells := 1, slots := 8, locals := 12 } : Room) s m #[(.int (4 : Int32))] below meth c s₁ [] 0 0 := Stand.of_body Bd
  have e0 : s₁.heap = h0 := by rw [← hh, Bd.state]; rfl
  have N0 := Fr.nil n0
  obtain ⟨S0, hS0⟩ : ∃ z, z = s₁.setTop (entryFrame m #[(.int (4 : Int32))] 1) := ⟨_, rfl⟩
  have pre0 : own_Go p e below S0 (s₁.setTop (mkF m 0 #[.val (.int (4 : Int32))] [])) := fun t k => by rw [hS0]; exact castTop (ef_nfor_4 m ) k
  have fin : ∀ t, Steps p.tables e below S0 t → Steps p.tables e below (s₁.setTop (entryFrame m #[(.int (4 : Int32))] 1)) t := fun t k => by rw [hS0] at k; exact k
  have kc0 : Keep h0 h0 [] := Keep.refl _ _
  have pre1 : own_Go p e below S0 (s₁.setTop (mkF m 1 #[.val (.int (4 : Int32))] [(.int (4 : Int32))])) := by
    intro t kt
    refine pre0 t ?_
    refine XS.iloadN X0.here hx rfl (hb hby d18_0) rfl ?_
    show Steps p.tables e below (s₁.setTop (mkF m 1 #[.val (.int (4 : Int32))] [(.int (4 : Int32))])) _
    exact kt
  obtain ⟨_, _, ⟨T2, L2, k2, n2⟩, -, X2, ⟨Lc2, hQ2, l2, y2, z2⟩, st2⟩ := Jvm.LawKit.callS X0 hx (y := (⟨"java/lang/StringUTF16", "newBytesLength", "(I)I"⟩ : MethodName)) hown (mvT hZ (hw _ (own_w 95 rfl))) (mvT hZ (hw _ (own_w 96 rfl))) (mvT hZ (hw _ (own_w 44 rfl))) (mvT hZ (hw _ (own_w 97 rfl))) (by decide) (backOf (W := 0) (rmnlen_4 l Z a0 hw []  h0 n0 Z0 ) hZ (hw _ (own_w 97 rfl)) (hw _ (own_w 44 rfl)) (by decide) (by decide)) (g := (mkF m 1 #[.val (.int (4 : Int32))] [(.int (4 : Int32))])) rfl (by rw [hml]; rfl) (argsL := [(.int (4 : Int32))]) (rest := []) (lenOf pd_0 rfl) rfl (by show 2 * 0 + _ ≤ _; exact Nat.le_of_eq rfl) (hb hby d18_1) (fun _ _ => ⟨rfl, e0, (by decide : 0 + 0 ≤ _), (by decide : 0 + 0 ≤ _)⟩)
  dsimp only [Pt.U, Pt.locs, Pt.cells, Pt.slots] at X2 l2 y2 z2 st2 hQ2
  subst l2 y2 z2
  obtain ⟨rfl, Nq2, eq2⟩ := hQ2
  have N2 := Fr.app N0 Nq2
  have pre3 : own_Go p e below S0 (T2.setTop (mkF m 4 #[.val (.int (4 : Int32))] [(.int (8 : Int32))])) := by
    intro t kt
    refine pre1 t ?_
    refine st2 _ ?_
    show Steps p.tables e below (T2.setTop (mkF m 4 #[.val (.int (4 : Int32))] [(.int (8 : Int32))])) _
    exact kt
  obtain ⟨T4, h4, k4, X4, e4, E4, A4, st4⟩ := newP X2 hx hZ (hw _ (own_w 46 rfl)) eq2 (g := (mkF m 4 #[.val (.int (4 : Int32))] [(.int (8 : Int32))])) rfl (hb hby d18_4) rfl (by decide) (cap := 8) (by decide) (by decide) (by decide) (by decide)
  obtain ⟨b4, g4⟩ : ∃ z, z = h0.size := ⟨_, rfl⟩
  rw [← g4] at A4 st4
  have ge5 : n0 ≤ b4 := Nat.le_trans Z0 (Nat.le_of_eq g4.symm)
  have sz6 : h0.size ≤ b4 := Nat.le_trans kc0.1 (Nat.le_of_eq g4.symm)
  have zs7 : n0 ≤ h4.size := Nat.le_trans Z0 E4.1
  have kc8 : Keep h0 h4 [] := kc0.ext E4
  have V4 : Arv Z h4 b4 k4 .byte (8 : Int32) [(.int (0 : Int32)), (.int (0 : Int32)), (.int (0 : Int32)), (.int (0 : Int32)), (.int (0 : Int32)), (.int (0 : Int32)), (.int (0 : Int32)), (.int (0 : Int32))] (.int (0 : Int32)) := (Arv.new A4 (by decide)).pad (pad_rep [] (.int (0 : Int32)) 8)
  have pre9 : own_Go p e below S0 (T4.setTop (mkF m 6 #[.val (.int (4 : Int32))] [(.ref b4)])) := by
    intro t kt
    refine pre3 t ?_
    refine st4 _ ?_
    show Steps p.tables e below (T4.setTop (mkF m 6 #[.val (.int (4 : Int32))] [(.ref b4)])) _
    exact kt
  obtain ⟨fs, hr, hrun, hended, hW, hsame⟩ := X4.leave (v := some (.ref b4)) (fun h => by rw [Bd.returns] at h; cases h)
  refine ⟨_, _, fin _ (pre9 _ ?_), hrun, hended, _, _, rfl, ?_, ⟨_, rfl⟩, hW, hsame.mono (by decide) (by decide)⟩
  · jvm_step X4.here [X4.here.top, hx, (hb hby d18_6), X4.method', Bd.returns, Value.isRef, FieldType.isReference]
    first | (intro acts; rw [hr _ acts rfl rfl rfl]) | rw [hr _ _ rfl rfl rfl]
    exact Steps.refl _
  · show Qnfor_4 Z  h0 n0 _ T4.heap _
    rw [e4]
    exact ⟨b4, k4, rfl, N2, kc8, sz6, V4⟩

theorem d20_0 : decode jdk_52_method_4_code 0 = .ok (.getstatic 44, 3) := by decide +kernel
theorem d20_3 : decode jdk_52_method_4_code 3 = .ok (.ifCond .ne 25, 3) := by decide +kernel
theorem d20_28 : decode jdk_52_method_4_code 28 = .ok (.iload_n 1, 1) := by decide +kernel
theorem d20_29 : decode jdk_52_method_4_code 29 = .ok (.iconst 1, 1) := by decide +kernel
theorem d20_30 : decode jdk_52_method_4_code 30 = .ok (.ishl, 1) := by decide +kernel
theorem d20_31 : decode jdk_52_method_4_code 31 = .ok (.istore_n 1, 1) := by decide +kernel
theorem d20_32 : decode jdk_52_method_4_code 32 = .ok (.aload_n 0, 1) := by decide +kernel
theorem d20_33 : decode jdk_52_method_4_code 33 = .ok (.iload_n 1, 1) := by decide +kernel
theorem d20_34 : decode jdk_52_method_4_code 34 = .ok (.iinc 1 1, 3) := by decide +kernel
theorem d20_37 : decode jdk_52_method_4_code 37 = .ok (.iload_n 2, 1) := by decide +kernel
theorem d20_38 : decode jdk_52_method_4_code 38 = .ok (.getstatic 59, 3) := by decide +kernel
theorem d20_41 : decode jdk_52_method_4_code 41 = .ok (.ishr, 1) := by decide +kernel
theorem d20_42 : decode jdk_52_method_4_code 42 = .ok (.i2b, 1) := by decide +kernel
theorem d20_43 : decode jdk_52_method_4_code 43 = .ok (.bastore, 1) := by decide +kernel
theorem d20_44 : decode jdk_52_method_4_code 44 = .ok (.aload_n 0, 1) := by decide +kernel
theorem d20_45 : decode jdk_52_method_4_code 45 = .ok (.iload_n 1, 1) := by decide +kernel
theorem d20_46 : decode jdk_52_method_4_code 46 = .ok (.iload_n 2, 1) := by decide +kernel
theorem d20_47 : decode jdk_52_method_4_code 47 = .ok (.getstatic 63, 3) := by decide +kernel
theorem d20_50 : decode jdk_52_method_4_code 50 = .ok (.ishr, 1) := by decide +kernel
theorem d20_51 : decode jdk_52_method_4_code 51 = .ok (.i2b, 1) := by decide +kernel
theorem d20_52 : decode jdk_52_method_4_code 52 = .ok (.bastore, 1) := by decide +kernel
theorem d20_53 : decode jdk_52_method_4_code 53 = .ok (.return_, 1) := by decide +kernel
theorem pn_20 : plainName "java/lang/StringUTF16" = true := by first | (simp [plainName, overriddenIn]; done) | decide +kernel
theorem ef_putc_0_8 (m : MethodId) (x0 : Addr) (x2 : Int32) : entryFrame m #[(.ref x0), (.int (0 : Int32)), (.int x2)] 3 = mkF m 0 #[.val (.ref x0), .val (.int (0 : Int32)), .val (.int x2)] [] := by first | (simp [entryFrame, mkF, argsToLocals, Value.category]; done) | rfl
def Qputc_0_8 (Z : State) (a1 : Addr) (p3 : Int32) (k1 : ClassId) (u0 : Value) (u1 : Value) (u2 : Value) (u3 : Value) (u4 : Value) (u5 : Value) (u6 : Value) (u7 : Value) (h0 : Heap) (n0 : Nat) (v : Option Value) (h : Heap) (L : List Loc) : Prop := v = none ∧ Fr n0 L ∧ Keep h0 h [a1] ∧ Arv Z h a1 k1 .byte (8 : Int32) [(.int (nar .byte ((p3 >>> ((0 : Int32) &&& 31)).toInt8.toInt32))), (.int (nar .byte ((p3 >>> ((8 : Int32) &&& 31)).toInt8.toInt32))), u2, u3, u4, u5, u6, u7] (.int (0 : Int32))
set_option maxRecDepth 65536 in
set_option maxHeartbeats 40000000 in
theorem rmputc_0_8 (l : Launch) (Z : State) (a0 : Array Value) (hw : ∀ d ∈ tables_1, d.before a0 Z = true) (ws : List Jvm.Cond) (a1 : Addr) (p3 : Int32) (k1 : ClassId) (u0 : Value) (u1 : Value) (u2 : Value) (u3 : Value) (u4 : Value) (u5 : Value) (u6 : Value) (u7 : Value) (h0 : Heap) (n0 : Nat) (Z0 : n0 ≤ h0.size) (O0 : Old Z n0 h0) (SA : Sta Z Z.heap "java/lang/StringUTF16" "$assertionsDisabled" "Z" (.int (1 : Int32))) (SH : Sta Z Z.heap "java/lang/StringUTF16" "HI_BYTE_SHIFT" "I" (.int (0 : Int32))) (SL : Sta Z Z.heap "java/lang/StringUTF16" "LO_BYTE_SHIFT" "I" (.int (8 : Int32))) (g1 : n0 ≤ a1) (V1 : Arv Z h0 a1 k1 .byte (8 : Int32) [u0, u1, u2, u3, u4, u5, u6, u7] (.int (0 : Int32))) :
    MetFree l (⟨"java/lang/StringUTF16", "putChar", "([BII)V"⟩ : MethodName) (head1 (Jvm.Cond.code (⟨"java/lang/StringUTF16", "putChar", "([BII)V"⟩ : MethodName) jdk_52_method_4_code 3 none :: ws) ({ frames := 0, cells := 0, slots := 0, locals := 0 } : Room)) (fun a U => a = #[(.ref a1), (.int (0 : Int32)), (.int p3)] ∧ Z.Warmed39 U.vm ∧ U.heap = h0) (fun _ _ _ _ _ => True) (fun _ U o U' => ∃ v L, o = .returned v ∧ Qputc_0_8 Z a1 p3 k1 u0 u1 u2 u3 u4 u5 u6 u7 h0 n0 v U'.heap L ∧ FrameEnd U o U' L ({ frames := 0, cells := 0, slots := 0, locals := 0 } : Room).cells ({ frames := 0, cells := 0, slots := 0, locals := 0 } : Room).slots) := by
  refine MetFree.of_bodySF (plainFor_of_name pn_20) hisR ?_
  intro p e s m args below meth c s₁ Bd hml0 hP hK
  obtain ⟨rfl, hZ, hh⟩ := hP
  have hx := Bd.exec
  have hby := Bd.bytes
  have hml : c.maxLocals = 3 := hml0
  have hown0 := findClass_of_methodNamed Bd.named
  have hown : s.vm.findClass "java/lang/StringUTF16" = some m.cls := hown0
  have hnm := (name_of_methodNamed Bd.named Bd.method).1
  have X0 : Stand p l e ({ frames := 0, cells := 0, slots := 0, locals := 0 } : Room) s m #[(.ref a1), (.int (0 : Int32)), (.int p3)] below meth c s₁ [] 0 0 := Stand.of_body Bd
  have e0 : s₁.heap = h0 := by rw [← hh, Bd.state]; rfl
  have N0 := Fr.nil n0
  obtain ⟨S0, hS0⟩ : ∃ z, z = s₁.setTop (entryFrame m #[(.ref a1), (.int (0 : Int32)), (.int p3)] 3) := ⟨_, rfl⟩
  have pre0 : own_Go p e below S0 (s₁.setTop (mkF m 0 #[.val (.ref a1), .val (.int (0 : Int32)), .val (.int p3)] [])) := fun t k => by rw [hS0]; exact castTop (ef_putc_0_8 m a1 p3) k
  have fin : ∀ t, Steps p.tables e below S0 t → Steps p.tables e below (s₁.setTop (entryFrame m #[(.ref a1), (.int (0 : Int32)), (.int p3)] 3)) t := fun t k => by rw [hS0] at k; exact k
  have kc0 : Keep h0 h0 [a1] := Keep.refl _ _
  obtain ⟨T1, X1, e1, st1⟩ := getS2 X0 hx hZ hown (host := "") (Or.inl (hw _ (own_w 102 rfl))) Via.refl e0 (SA.ext O0.2) (g := (mkF m 0 #[.val (.ref a1), .val (.int (0 : Int32)), .val (.int p3)] [])) rfl (hb hby d20_0)
  have pre2 : own_Go p e below S0 (T1.setTop (mkF m 38 #[.val (.ref a1), .val (.int (1 : Int32)), .val (.int p3)] [(.int p3), (.int (0 : Int32)), (.ref a1)])) := by
    intro t kt
    refine pre0 t ?_
    refine st1 _ ?_
    show Steps p.tables e below (T1.setTop (mkF m 3 #[.val (.ref a1), .val (.int (0 : Int32)), .val (.int p3)] [(.int (1 : Int32))])) _
    refine XS.ifYes X1.here hx rfl (pc0 := 3) (pc' := 28) rfl (hb hby d20_3) rfl ((if0 _ _).trans (feq (by decide : ¬ ((1 : Int32) = (0 : Int32)))).2) (by decide) (by decide) ?_
    show Steps p.tables e below (T1.setTop (mkF m 28 #[.val (.ref a1), .val (.int (0 : Int32)), .val (.int p3)] [])) _
    refine XS.iloadN X1.here hx rfl (hb hby d20_28) rfl ?_
    show Steps p.tables e below (T1.setTop (mkF m 29 #[.val (.ref a1), .val (.int (0 : Int32)), .val (.int p3)] [(.int (0 : Int32))])) _
    refine XS.iconst X1.here hx rfl (hb hby d20_29) ?_
    show Steps p.tables e below (T1.setTop (mkF m 30 #[.val (.ref a1), .val (.int (0 : Int32)), .val (.int p3)] [(.int (1 : Int32)), (.int (0 : Int32))])) _
    refine XS.ishl X1.here hx rfl (hb hby d20_30) rfl ?_
    show Steps p.tables e below (T1.setTop (mkF m 31 #[.val (.ref a1), .val (.int (0 : Int32)), .val (.int p3)] [(.int (0 : Int32))])) _
    refine XS.istoreN X1.here hx rfl (hb hby d20_31) rfl (l' := #[.val (.ref a1), .val (.int (0 : Int32)), .val (.int p3)]) rfl ?_
    show Steps p.tables e below (T1.setTop (mkF m 32 #[.val (.ref a1), .val (.int (0 : Int32)), .val (.int p3)] [])) _
    refine XS.aloadN X1.here hx rfl (hb hby d20_32) rfl rfl ?_
    show Steps p.tables e below (T1.setTop (mkF m 33 #[.val (.ref a1), .val (.int (0 : Int32)), .val (.int p3)] [(.ref a1)])) _
    refine XS.iloadN X1.here hx rfl (hb hby d20_33) rfl ?_
    show Steps p.tables e below (T1.setTop (mkF m 34 #[.val (.ref a1), .val (.int (0 : Int32)), .val (.int p3)] [(.int (0 : Int32)), (.ref a1)])) _
    refine XS.iinc X1.here hx rfl (hb hby d20_34) rfl (l' := #[.val (.ref a1), .val (.int (1 : Int32)), .val (.int p3)]) rfl ?_
    show Steps p.tables e below (T1.setTop (mkF m 37 #[.val (.ref a1), .val (.int (1 : Int32)), .val (.int p3)] [(.int (0 : Int32)), (.ref a1)])) _
    refine XS.iloadN X1.here hx rfl (hb hby d20_37) rfl ?_
    show Steps p.tables e below (T1.setTop (mkF m 38 #[.val (.ref a1), .val (.int (1 : Int32)), .val (.int p3)] [(.int p3), (.int (0 : Int32)), (.ref a1)])) _
    exact kt
  obtain ⟨T3, X3, e3, st3⟩ := getS2 X1 hx hZ hown (host := "") (Or.inl (hw _ (own_w 103 rfl))) Via.refl e1 (SH.ext O0.2) (g := (mkF m 38 #[.val (.ref a1), .val (.int (1 : Int32)), .val (.int p3)] [(.int p3), (.int (0 : Int32)), (.ref a1)])) rfl (hb hby d20_38)
  have pre4 : own_Go p e below S0 (T3.setTop (mkF m 43 #[.val (.ref a1), .val (.int (1 : Int32)), .val (.int p3)] [(.int ((p3 >>> ((0 : Int32) &&& 31)).toInt8.toInt32)), (.int (0 : Int32)), (.ref a1)])) := by
    intro t kt
    refine pre2 t ?_
    refine st3 _ ?_
    show Steps p.tables e below (T3.setTop (mkF m 41 #[.val (.ref a1), .val (.int (1 : Int32)), .val (.int p3)] [(.int (0 : Int32)), (.int p3), (.int (0 : Int32)), (.ref a1)])) _
    refine XS.ishr X3.here hx rfl (hb hby d20_41) rfl ?_
    show Steps p.tables e below (T3.setTop (mkF m 42 #[.val (.ref a1), .val (.int (1 : Int32)), .val (.int p3)] [(.int (p3 >>> ((0 : Int32) &&& 31))), (.int (0 : Int32)), (.ref a1)])) _
    refine XS.i2b X3.here hx rfl (hb hby d20_42) rfl ?_
    show Steps p.tables e below (T3.setTop (mkF m 43 #[.val (.ref a1), .val (.int (1 : Int32)), .val (.int p3)] [(.int ((p3 >>> ((0 : Int32) &&& 31)).toInt8.toInt32)), (.int (0 : Int32)), (.ref a1)])) _
    exact kt
  obtain ⟨cl5, Ar5, q5, Sz5, Ng5, Hs5, Gt5⟩ := id V1
  have hin5 : ¬ ((0 : Int32) < 0 ∨ cl5.slots.size ≤ ((0 : Int32)).toNatClampNeg) := inb_of Sz5 ⟨by decide, by decide⟩
  obtain ⟨T5, h5, X5, e5, W5, st5⟩ := stB X3 hx hZ e3 Ar5 (j := (0 : Int32)) hin5 (g := (mkF m 43 #[.val (.ref a1), .val (.int (1 : Int32)), .val (.int p3)] [(.int ((p3 >>> ((0 : Int32) &&& 31)).toInt8.toInt32)), (.int (0 : Int32)), (.ref a1)])) rfl rfl (hb hby d20_43)
  have N5 := Fr.snoc X5 N0 g1
  have zs6 : n0 ≤ h5.size := Nat.le_trans Z0 (Keep.of_wr W5).1
  have kc7 : Keep h0 h5 [a1] := kc0.wr W5 (Or.inl (List.mem_of_getElem? (i := 0) rfl))
  have V5 : Arv Z h5 a1 k1 .byte (8 : Int32) [(.int (nar .byte ((p3 >>> ((0 : Int32) &&& 31)).toInt8.toInt32))), u1, u2, u3, u4, u5, u6, u7] (.int (0 : Int32)) := Arv.set Ar5 q5 Sz5 Ng5 Hs5 Gt5 (fits_nar_byte _) W5 0 rfl (Nat.le_of_ble_eq_true rfl)
  have pre8 : own_Go p e below S0 (T5.setTop (mkF m 47 #[.val (.ref a1), .val (.int (1 : Int32)), .val (.int p3)] [(.int p3), (.int (1 : Int32)), (.ref a1)])) := by
    intro t kt
    refine pre4 t ?_
    refine st5 _ ?_
    show Steps p.tables e below (T5.setTop (mkF m 44 #[.val (.ref a1), .val (.int (1 : Int32)), .val (.int p3)] [])) _
    refine XS.aloadN X5.here hx rfl (hb hby d20_44) rfl rfl ?_
    show Steps p.tables e below (T5.setTop (mkF m 45 #[.val (.ref a1), .val (.int (1 : Int32)), .val (.int p3)] [(.ref a1)])) _
    refine XS.iloadN X5.here hx rfl (hb hby d20_45) rfl ?_
    show Steps p.tables e below (T5.setTop (mkF m 46 #[.val (.ref a1), .val (.int (1 : Int32)), .val (.int p3)] [(.int (1 : Int32)), (.ref a1)])) _
    refine XS.iloadN X5.here hx rfl (hb hby d20_46) rfl ?_
    show Steps p.tables e below (T5.setTop (mkF m 47 #[.val (.ref a1), .val (.int (1 : Int32)), .val (.int p3)] [(.int p3), (.int (1 : Int32)), (.ref a1)])) _
    exact kt
  have f9 : Old Z n0 h5 := (O0.wr W5 g1)
  obtain ⟨T10, X10, e10, st10⟩ := getS2 X5 hx hZ hown (host := "") (Or.inl (hw _ (own_w 104 rfl))) Via.refl e5 (SL.ext f9.2) (g := (mkF m 47 #[.val (.ref a1), .val (.int (1 : Int32)), .val (.int p3)] [(.int p3), (.int (1 : Int32)), (.ref a1)])) rfl (hb hby d20_47)
  have pre11 : own_Go p e below S0 (T10.setTop (mkF m 52 #[.val (.ref a1), .val (.int (1 : Int32)), .val (.int p3)] [(.int ((p3 >>> ((8 : Int32) &&& 31)).toInt8.toInt32)), (.int (1 : Int32)), (.ref a1)])) := by
    intro t kt
    refine pre8 t ?_
    refine st10 _ ?_
    show Steps p.tables e below (T10.setTop (mkF m 50 #[.val (.ref a1), .val (.int (1 : Int32)), .val (.int p3)] [(.int (8 : Int32)), (.int p3), (.int (1 : Int32)), (.ref a1)])) _
    refine XS.ishr X10.here hx rfl (hb hby d20_50) rfl ?_
    show Steps p.tables e below (T10.setTop (mkF m 51 #[.val (.ref a1), .val (.int (1 : Int32)), .val (.int p3)] [(.int (p3 >>> ((8 : Int32) &&& 31))), (.int (1 : Int32)), (.ref a1)])) _
    refine XS.i2b X10.here hx rfl (hb hby d20_51) rfl ?_
    show Steps p.tables e below (T10.setTop (mkF m 52 #[.val (.ref a1), .val (.int (1 : Int32)), .val (.int p3)] [(.int ((p3 >>> ((8 : Int32) &&& 31)).toInt8.toInt32)), (.int (1 : Int32)), (.ref a1)])) _
    exact kt
  obtain ⟨cl12, Ar12, q12, Sz12, Ng12, Hs12, Gt12⟩ := id V5
  have hin12 : ¬ ((1 : Int32) < 0 ∨ cl12.slots.size ≤ ((1 : Int32)).toNatClampNeg) := inb_of Sz12 ⟨by decide, by decide⟩
  obtain ⟨T12, h12, X12, e12, W12, st12⟩ := stB X10 hx hZ e10 Ar12 (j := (1 : Int32)) hin12 (g := (mkF m 52 #[.val (.ref a1), .val (.int (1 : Int32)), .val (.int p3)] [(.int ((p3 >>> ((8 : Int32) &&& 31)).toInt8.toInt32)), (.int (1 : Int32)), (.ref a1)])) rfl rfl (hb hby d20_52)
  have N12 := Fr.snoc X12 N5 g1
  have zs13 : n0 ≤ h12.size := Nat.le_trans zs6 (Keep.of_wr W12).1
  have kc14 : Keep h0 h12 [a1] := kc7.wr W12 (Or.inl (List.mem_of_getElem? (i := 0) rfl))
  have V12 : Arv Z h12 a1 k1 .byte (8 : Int32) [(.int (nar .byte ((p3 >>> ((0 : Int32) &&& 31)).toInt8.toInt32))), (.int (nar .byte ((p3 >>> ((8 : Int32) &&& 31)).toInt8.toInt32))), u2, u3, u4, u5, u6, u7] (.int (0 : Int32)) := Arv.set Ar12 q12 Sz12 Ng12 Hs12 Gt12 (fits_nar_byte _) W12 1 rfl (Nat.le_of_ble_eq_true rfl)
  have pre15 : own_Go p e below S0 (T12.setTop (mkF m 53 #[.val (.ref a1), .val (.int (1 : Int32)), .val (.int p3)] [])) := by
    intro t kt
    refine pre11 t ?_
    refine st12 _ ?_
    show Steps p.tables e below (T12.setTop (mkF m 53 #[.val (.ref a1), .val (.int (1 : Int32)), .val (.int p3)] [])) _
    exact kt
  obtain ⟨fs, hr, hrun, hended, hW, hsame⟩ := X12.leave (v := none) (fun _ => rfl)
  refine ⟨_, _, fin _ (pre15 _ ?_), hrun, hended, _, _, rfl, ?_, ⟨_, rfl⟩, hW, hsame.mono (by decide) (by decide)⟩
  · exact X12.returnOut hx Bd.returns (hb hby d20_53) hr
  · show Qputc_0_8 Z a1 p3 k1 u0 u1 u2 u3 u4 u5 u6 u7 h0 n0 _ T12.heap _
    rw [e12]
    exact ⟨rfl, N12, kc14, V12⟩

theorem ef_putc_1_8 (m : MethodId) (x0 : Addr) (x2 : Int32) : entryFrame m #[(.ref x0), (.int (1 : Int32)), (.int x2)] 3 = mkF m 0 #[.val (.ref x0), .val (.int (1 : Int32)), .val (.int x2)] [] := by first | (simp [entryFrame, mkF, argsToLocals, Value.category]; done) | rfl
def Qputc_1_8 (Z : State) (a1 : Addr) (p3 : Int32) (k1 : ClassId) (u0 : Value) (u1 : Value) (u2 : Value) (u3 : Value) (u4 : Value) (u5 : Value) (u6 : Value) (u7 : Value) (h0 : Heap) (n0 : Nat) (v : Option Value) (h : Heap) (L : List Loc) : Prop := v = none ∧ Fr n0 L ∧ Keep h0 h [a1] ∧ Arv Z h a1 k1 .byte (8 : Int32) [u0, u1, (.int (nar .byte ((p3 >>> ((0 : Int32) &&& 31)).toInt8.toInt32))), (.int (nar .byte ((p3 >>> ((8 : Int32) &&& 31)).toInt8.toInt32))), u4, u5, u6, u7] (.int (0 : Int32))
set_option maxRecDepth 65536 in
set_option maxHeartbeats 40000000 in
theorem rmputc_1_8 (l : Launch) (Z : State) (a0 : Array Value) (hw : ∀ d ∈ tables_1, d.before a0 Z = true) (ws : List Jvm.Cond) (a1 : Addr) (p3 : Int32) (k1 : ClassId) (u0 : Value) (u1 : Value) (u2 : Value) (u3 : Value) (u4 : Value) (u5 : Value) (u6 : Value) (u7 : Value) (h0 : Heap) (n0 : Nat) (Z0 : n0 ≤ h0.size) (O0 : Old Z n0 h0) (SA : Sta Z Z.heap "java/lang/StringUTF16" "$assertionsDisabled" "Z" (.int (1 : Int32))) (SH : Sta Z Z.heap "java/lang/StringUTF16" "HI_BYTE_SHIFT" "I" (.int (0 : Int32))) (SL : Sta Z Z.heap "java/lang/StringUTF16" "LO_BYTE_SHIFT" "I" (.int (8 : Int32))) (g1 : n0 ≤ a1) (V1 : Arv Z h0 a1 k1 .byte (8 : Int32) [u0, u1, u2, u3, u4, u5, u6, u7] (.int (0 : Int32))) :
    MetFree l (⟨"java/lang/StringUTF16", "putChar", "([BII)V"⟩ : MethodName) (head1 (Jvm.Cond.code (⟨"java/lang/StringUTF16", "putChar", "([BII)V"⟩ : MethodName) jdk_52_method_4_code 3 none :: ws) ({ frames := 0, cells := 0, slots := 0, locals := 0 } : Room)) (fun a U => a = #[(.ref a1), (.int (1 : Int32)), (.int p3)] ∧ Z.Warmed39 U.vm ∧ U.heap = h0) (fun _ _ _ _ _ => True) (fun _ U o U' => ∃ v L, o = .returned v ∧ Qputc_1_8 Z a1 p3 k1 u0 u1 u2 u3 u4 u5 u6 u7 h0 n0 v U'.heap L ∧ FrameEnd U o U' L ({ frames := 0, cells := 0, slots := 0, locals := 0 } : Room).cells ({ frames := 0, cells := 0, slots := 0, locals := 0 } : Room).slots) := by
  refine MetFree.of_bodySF (plainFor_of_name pn_20) hisR ?_
  intro p e s m args below meth c s₁ Bd hml0 hP hK
  obtain ⟨rfl, hZ, hh⟩ := hP
  have hx := Bd.exec
  have hby := Bd.bytes
  have hml : c.maxLocals = 3 := hml0
  have hown0 := findClass_of_methodNamed Bd.named
  have hown : s.vm.findClass "java/lang/StringUTF16" = some m.cls := hown0
  have hnm := (name_of_methodNamed Bd.named Bd.method).1
  have X0 : Stand p l e ({ frames := 0, cells := 0, slots := 0, locals := 0 } : Room) s m #[(.ref a1), (.int (1 : Int32)), (.int p3)] below meth c s₁ [] 0 0 := Stand.of_body Bd
  have e0 : s₁.heap = h0 := by rw [← hh, Bd.state]; rfl
  have N0 := Fr.nil n0
  obtain ⟨S0, hS0⟩ : ∃ z, z = s₁.setTop (entryFrame m #[(.ref a1), (.int (1 : Int32)), (.int p3)] 3) := ⟨_, rfl⟩
  have pre0 : own_Go p e below S0 (s₁.setTop (mkF m 0 #[.val (.ref a1), .val (.int (1 : Int32)), .val (.int p3)] [])) := fun t k => by rw [hS0]; exact castTop (ef_putc_1_8 m a1 p3) k
  have fin : ∀ t, Steps p.tables e below S0 t → Steps p.tables e below (s₁.setTop (entryFrame m #[(.ref a1), (.int (1 : Int32)), (.int p3)] 3)) t := fun t k => by rw [hS0] at k; exact k
  have kc0 : Keep h0 h0 [a1] := Keep.refl _ _
  obtain ⟨T1, X1, e1, st1⟩ := getS2 X0 hx hZ hown (host := "") (Or.inl (hw _ (own_w 102 rfl))) Via.refl e0 (SA.ext O0.2) (g := (mkF m 0 #[.val (.ref a1), .val (.int (1 : Int32)), .val (.int p3)] [])) rfl (hb hby d20_0)
  have pre2 : own_Go p e below S0 (T1.setTop (mkF m 38 #[.val (.ref a1), .val (.int (3 : Int32)), .val (.int p3)] [(.int p3), (.int (2 : Int32)), (.ref a1)])) := by
    intro t kt
    refine pre0 t ?_
    refine st1 _ ?_
    show Steps p.tables e below (T1.setTop (mkF m 3 #[.val (.ref a1), .val (.int (1 : Int32)), .val (.int p3)] [(.int (1 : Int32))])) _
    refine XS.ifYes X1.here hx rfl (pc0 := 3) (pc' := 28) rfl (hb hby d20_3) rfl ((if0 _ _).trans (feq (by decide : ¬ ((1 : Int32) = (0 : Int32)))).2) (by decide) (by decide) ?_
    show Steps p.tables e below (T1.setTop (mkF m 28 #[.val (.ref a1), .val (.int (1 : Int32)), .val (.int p3)] [])) _
    refine XS.iloadN X1.here hx rfl (hb hby d20_28) rfl ?_
    show Steps p.tables e below (T1.setTop (mkF m 29 #[.val (.ref a1), .val (.int (1 : Int32)), .val (.int p3)] [(.int (1 : Int32))])) _
    refine XS.iconst X1.here hx rfl (hb hby d20_29) ?_
    show Steps p.tables e below (T1.setTop (mkF m 30 #[.val (.ref a1), .val (.int (1 : Int32)), .val (.int p3)] [(.int (1 : Int32)), (.int (1 : Int32))])) _
    refine XS.ishl X1.here hx rfl (hb hby d20_30) rfl ?_
    show Steps p.tables e below (T1.setTop (mkF m 31 #[.val (.ref a1), .val (.int (1 : Int32)), .val (.int p3)] [(.int (2 : Int32))])) _
    refine XS.istoreN X1.here hx rfl (hb hby d20_31) rfl (l' := #[.val (.ref a1), .val (.int (2 : Int32)), .val (.int p3)]) rfl ?_
    show Steps p.tables e below (T1.setTop (mkF m 32 #[.val (.ref a1), .val (.int (2 : Int32)), .val (.int p3)] [])) _
    refine XS.aloadN X1.here hx rfl (hb hby d20_32) rfl rfl ?_
    show Steps p.tables e below (T1.setTop (mkF m 33 #[.val (.ref a1), .val (.int (2 : Int32)), .val (.int p3)] [(.ref a1)])) _
    refine XS.iloadN X1.here hx rfl (hb hby d20_33) rfl ?_
    show Steps p.tables e below (T1.setTop (mkF m 34 #[.val (.ref a1), .val (.int (2 : Int32)), .val (.int p3)] [(.int (2 : Int32)), (.ref a1)])) _
    refine XS.iinc X1.here hx rfl (hb hby d20_34) rfl (l' := #[.val (.ref a1), .val (.int (3 : Int32)), .val (.int p3)]) rfl ?_
    show Steps p.tables e below (T1.setTop (mkF m 37 #[.val (.ref a1), .val (.int (3 : Int32)), .val (.int p3)] [(.int (2 : Int32)), (.ref a1)])) _
    refine XS.iloadN X1.here hx rfl (hb hby d20_37) rfl ?_
    show Steps p.tables e below (T1.setTop (mkF m 38 #[.val (.ref a1), .val (.int (3 : Int32)), .val (.int p3)] [(.int p3), (.int (2 : Int32)), (.ref a1)])) _
    exact kt
  obtain ⟨T3, X3, e3, st3⟩ := getS2 X1 hx hZ hown (host := "") (Or.inl (hw _ (own_w 103 rfl))) Via.refl e1 (SH.ext O0.2) (g := (mkF m 38 #[.val (.ref a1), .val (.int (3 : Int32)), .val (.int p3)] [(.int p3), (.int (2 : Int32)), (.ref a1)])) rfl (hb hby d20_38)
  have pre4 : own_Go p e below S0 (T3.setTop (mkF m 43 #[.val (.ref a1), .val (.int (3 : Int32)), .val (.int p3)] [(.int ((p3 >>> ((0 : Int32) &&& 31)).toInt8.toInt32)), (.int (2 : Int32)), (.ref a1)])) := by
    intro t kt
    refine pre2 t ?_
    refine st3 _ ?_
    show Steps p.tables e below (T3.setTop (mkF m 41 #[.val (.ref a1), .val (.int (3 : Int32)), .val (.int p3)] [(.int (0 : Int32)), (.int p3), (.int (2 : Int32)), (.ref a1)])) _
    refine XS.ishr X3.here hx rfl (hb hby d20_41) rfl ?_
    show Steps p.tables e below (T3.setTop (mkF m 42 #[.val (.ref a1), .val (.int (3 : Int32)), .val (.int p3)] [(.int (p3 >>> ((0 : Int32) &&& 31))), (.int (2 : Int32)), (.ref a1)])) _
    refine XS.i2b X3.here hx rfl (hb hby d20_42) rfl ?_
    show Steps p.tables e below (T3.setTop (mkF m 43 #[.val (.ref a1), .val (.int (3 : Int32)), .val (.int p3)] [(.int ((p3 >>> ((0 : Int32) &&& 31)).toInt8.toInt32)), (.int (2 : Int32)), (.ref a1)])) _
    exact kt
  obtain ⟨cl5, Ar5, q5, Sz5, Ng5, Hs5, Gt5⟩ := id V1
  have hin5 : ¬ ((2 : Int32) < 0 ∨ cl5.slots.size ≤ ((2 : Int32)).toNatClampNeg) := inb_of Sz5 ⟨by decide, by decide⟩
  obtain ⟨T5, h5, X5, e5, W5, st5⟩ := stB X3 hx hZ e3 Ar5 (j := (2 : Int32)) hin5 (g := (mkF m 43 #[.val (.ref a1), .val (.int (3 : Int32)), .val (.int p3)] [(.int ((p3 >>> ((0 : Int32) &&& 31)).toInt8.toInt32)), (.int (2 : Int32)), (.ref a1)])) rfl rfl (hb hby d20_43)
  have N5 := Fr.snoc X5 N0 g1
  have zs6 : n0 ≤ h5.size := Nat.le_trans Z0 (Keep.of_wr W5).1
  have kc7 : Keep h0 h5 [a1] := kc0.wr W5 (Or.inl (List.mem_of_getElem? (i := 0) rfl))
  have V5 : Arv Z h5 a1 k1 .byte (8 : Int32) [u0, u1, (.int (nar .byte ((p3 >>> ((0 : Int32) &&& 31)).toInt8.toInt32))), u3, u4, u5, u6, u7] (.int (0 : Int32)) := Arv.set Ar5 q5 Sz5 Ng5 Hs5 Gt5 (fits_nar_byte _) W5 2 rfl (Nat.le_of_ble_eq_true rfl)
  have pre8 : own_Go p e below S0 (T5.setTop (mkF m 47 #[.val (.ref a1), .val (.int (3 : Int32)), .val (.int p3)] [(.int p3), (.int (3 : Int32)), (.ref a1)])) := by
    intro t kt
    refine pre4 t ?_
    refine st5 _ ?_
    show Steps p.tables e below (T5.setTop (mkF m 44 #[.val (.ref a1), .val (.int (3 : Int32)), .val (.int p3)] [])) _
    refine XS.aloadN X5.here hx rfl (hb hby d20_44) rfl rfl ?_
    show Steps p.tables e below (T5.setTop (mkF m 45 #[.val (.ref a1), .val (.int (3 : Int32)), .val (.int p3)] [(.ref a1)])) _
    refine XS.iloadN X5.here hx rfl (hb hby d20_45) rfl ?_
    show Steps p.tables e below (T5.setTop (mkF m 46 #[.val (.ref a1), .val (.int (3 : Int32)), .val (.int p3)] [(.int (3 : Int32)), (.ref a1)])) _
    refine XS.iloadN X5.here hx rfl (hb hby d20_46) rfl ?_
    show Steps p.tables e below (T5.setTop (mkF m 47 #[.val (.ref a1), .val (.int (3 : Int32)), .val (.int p3)] [(.int p3), (.int (3 : Int32)), (.ref a1)])) _
    exact kt
  have f9 : Old Z n0 h5 := (O0.wr W5 g1)
  obtain ⟨T10, X10, e10, st10⟩ := getS2 X5 hx hZ hown (host := "") (Or.inl (hw _ (own_w 104 rfl))) Via.refl e5 (SL.ext f9.2) (g := (mkF m 47 #[.val (.ref a1), .val (.int (3 : Int32)), .val (.int p3)] [(.int p3), (.int (3 : Int32)), (.ref a1)])) rfl (hb hby d20_47)
  have pre11 : own_Go p e below S0 (T10.setTop (mkF m 52 #[.val (.ref a1), .val (.int (3 : Int32)), .val (.int p3)] [(.int ((p3 >>> ((8 : Int32) &&& 31)).toInt8.toInt32)), (.int (3 : Int32)), (.ref a1)])) := by
    intro t kt
    refine pre8 t ?_
    refine st10 _ ?_
    show Steps p.tables e below (T10.setTop (mkF m 50 #[.val (.ref a1), .val (.int (3 : Int32)), .val (.int p3)] [(.int (8 : Int32)), (.int p3), (.int (3 : Int32)), (.ref a1)])) _
    refine XS.ishr X10.here hx rfl (hb hby d20_50) rfl ?_
    show Steps p.tables e below (T10.setTop (mkF m 51 #[.val (.ref a1), .val (.int (3 : Int32)), .val (.int p3)] [(.int (p3 >>> ((8 : Int32) &&& 31))), (.int (3 : Int32)), (.ref a1)])) _
    refine XS.i2b X10.here hx rfl (hb hby d20_51) rfl ?_
    show Steps p.tables e below (T10.setTop (mkF m 52 #[.val (.ref a1), .val (.int (3 : Int32)), .val (.int p3)] [(.int ((p3 >>> ((8 : Int32) &&& 31)).toInt8.toInt32)), (.int (3 : Int32)), (.ref a1)])) _
    exact kt
  obtain ⟨cl12, Ar12, q12, Sz12, Ng12, Hs12, Gt12⟩ := id V5
  have hin12 : ¬ ((3 : Int32) < 0 ∨ cl12.slots.size ≤ ((3 : Int32)).toNatClampNeg) := inb_of Sz12 ⟨by decide, by decide⟩
  obtain ⟨T12, h12, X12, e12, W12, st12⟩ := stB X10 hx hZ e10 Ar12 (j := (3 : Int32)) hin12 (g := (mkF m 52 #[.val (.ref a1), .val (.int (3 : Int32)), .val (.int p3)] [(.int ((p3 >>> ((8 : Int32) &&& 31)).toInt8.toInt32)), (.int (3 : Int32)), (.ref a1)])) rfl rfl (hb hby d20_52)
  have N12 := Fr.snoc X12 N5 g1
  have zs13 : n0 ≤ h12.size := Nat.le_trans zs6 (Keep.of_wr W12).1
  have kc14 : Keep h0 h12 [a1] := kc7.wr W12 (Or.inl (List.mem_of_getElem? (i := 0) rfl))
  have V12 : Arv Z h12 a1 k1 .byte (8 : Int32) [u0, u1, (.int (nar .byte ((p3 >>> ((0 : Int32) &&& 31)).toInt8.toInt32))), (.int (nar .byte ((p3 >>> ((8 : Int32) &&& 31)).toInt8.toInt32))), u4, u5, u6, u7] (.int (0 : Int32)) := Arv.set Ar12 q12 Sz12 Ng12 Hs12 Gt12 (fits_nar_byte _) W12 3 rfl (Nat.le_of_ble_eq_true rfl)
  have pre15 : own_Go p e below S0 (T12.setTop (mkF m 53 #[.val (.ref a1), .val (.int (3 : Int32)), .val (.int p3)] [])) := by
    intro t kt
    refine pre11 t ?_
    refine st12 _ ?_
    show Steps p.tables e below (T12.setTop (mkF m 53 #[.val (.ref a1), .val (.int (3 : Int32)), .val (.int p3)] [])) _
    exact kt
  obtain ⟨fs, hr, hrun, hended, hW, hsame⟩ := X12.leave (v := none) (fun _ => rfl)
  refine ⟨_, _, fin _ (pre15 _ ?_), hrun, hended, _, _, rfl, ?_, ⟨_, rfl⟩, hW, hsame.mono (by decide) (by decide)⟩
  · exact X12.returnOut hx Bd.returns (hb hby d20_53) hr
  · show Qputc_1_8 Z a1 p3 k1 u0 u1 u2 u3 u4 u5 u6 u7 h0 n0 _ T12.heap _
    rw [e12]
    exact ⟨rfl, N12, kc14, V12⟩

theorem ef_putc_2_8 (m : MethodId) (x0 : Addr) (x2 : Int32) : entryFrame m #[(.ref x0), (.int (2 : Int32)), (.int x2)] 3 = mkF m 0 #[.val (.ref x0), .val (.int (2 : Int32)), .val (.int x2)] [] := by first | (simp [entryFrame, mkF, argsToLocals, Value.category]; done) | rfl
def Qputc_2_8 (Z : State) (a1 : Addr) (p3 : Int32) (k1 : ClassId) (u0 : Value) (u1 : Value) (u2 : Value) (u3 : Value) (u4 : Value) (u5 : Value) (u6 : Value) (u7 : Value) (h0 : Heap) (n0 : Nat) (v : Option Value) (h : Heap) (L : List Loc) : Prop := v = none ∧ Fr n0 L ∧ Keep h0 h [a1] ∧ Arv Z h a1 k1 .byte (8 : Int32) [u0, u1, u2, u3, (.int (nar .byte ((p3 >>> ((0 : Int32) &&& 31)).toInt8.toInt32))), (.int (nar .byte ((p3 >>> ((8 : Int32) &&& 31)).toInt8.toInt32))), u6, u7] (.int (0 : Int32))
set_option maxRecDepth 65536 in
set_option maxHeartbeats 40000000 in
theorem rmputc_2_8 (l : Launch) (Z : State) (a0 : Array Value) (hw : ∀ d ∈ tables_1, d.before a0 Z = true) (ws : List Jvm.Cond) (a1 : Addr) (p3 : Int32) (k1 : ClassId) (u0 : Value) (u1 : Value) (u2 : Value) (u3 : Value) (u4 : Value) (u5 : Value) (u6 : Value) (u7 : Value) (h0 : Heap) (n0 : Nat) (Z0 : n0 ≤ h0.size) (O0 : Old Z n0 h0) (SA : Sta Z Z.heap "java/lang/StringUTF16" "$assertionsDisabled" "Z" (.int (1 : Int32))) (SH : Sta Z Z.heap "java/lang/StringUTF16" "HI_BYTE_SHIFT" "I" (.int (0 : Int32))) (SL : Sta Z Z.heap "java/lang/StringUTF16" "LO_BYTE_SHIFT" "I" (.int (8 : Int32))) (g1 : n0 ≤ a1) (V1 : Arv Z h0 a1 k1 .byte (8 : Int32) [u0, u1, u2, u3, u4, u5, u6, u7] (.int (0 : Int32))) :
    MetFree l (⟨"java/lang/StringUTF16", "putChar", "([BII)V"⟩ : MethodName) (head1 (Jvm.Cond.code (⟨"java/lang/StringUTF16", "putChar", "([BII)V"⟩ : MethodName) jdk_52_method_4_code 3 none :: ws) ({ frames := 0, cells := 0, slots := 0, locals := 0 } : Room)) (fun a U => a = #[(.ref a1), (.int (2 : Int32)), (.int p3)] ∧ Z.Warmed39 U.vm ∧ U.heap = h0) (fun _ _ _ _ _ => True) (fun _ U o U' => ∃ v L, o = .returned v ∧ Qputc_2_8 Z a1 p3 k1 u0 u1 u2 u3 u4 u5 u6 u7 h0 n0 v U'.heap L ∧ FrameEnd U o U' L ({ frames := 0, cells := 0, slots := 0, locals := 0 } : Room).cells ({ frames := 0, cells := 0, slots := 0, locals := 0 } : Room).slots) := by
  refine MetFree.of_bodySF (plainFor_of_name pn_20) hisR ?_
  intro p e s m args below meth c s₁ Bd hml0 hP hK
  obtain ⟨rfl, hZ, hh⟩ := hP
  have hx := Bd.exec
  have hby := Bd.bytes
  have hml : c.maxLocals = 3 := hml0
  have hown0 := findClass_of_methodNamed Bd.named
  have hown : s.vm.findClass "java/lang/StringUTF16" = some m.cls := hown0
  have hnm := (name_of_methodNamed Bd.named Bd.method).1
  have X0 : Stand p l e ({ frames := 0, cells := 0, slots := 0, locals := 0 } : Room) s m #[(.ref a1), (.int (2 : Int32)), (.int p3)] below meth c s₁ [] 0 0 := Stand.of_body Bd
  have e0 : s₁.heap = h0 := by rw [← hh, Bd.state]; rfl
  have N0 := Fr.nil n0
  obtain ⟨S0, hS0⟩ : ∃ z, z = s₁.setTop (entryFrame m #[(.ref a1), (.int (2 : Int32)), (.int p3)] 3) := ⟨_, rfl⟩
  have pre0 : own_Go p e below S0 (s₁.setTop (mkF m 0 #[.val (.ref a1), .val (.int (2 : Int32)), .val (.int p3)] [])) := fun t k => by rw [hS0]; exact castTop (ef_putc_2_8 m a1 p3) k
  have fin : ∀ t, Steps p.tables e below S0 t → Steps p.tables e below (s₁.setTop (entryFrame m #[(.ref a1), (.int (2 : Int32)), (.int p3)] 3)) t := fun t k => by rw [hS0] at k; exact k
  have kc0 : Keep h0 h0 [a1] := Keep.refl _ _
  obtain ⟨T1, X1, e1, st1⟩ := getS2 X0 hx hZ hown (host := "") (Or.inl (hw _ (own_w 102 rfl))) Via.refl e0 (SA.ext O0.2) (g := (mkF m 0 #[.val (.ref a1), .val (.int (2 : Int32)), .val (.int p3)] [])) rfl (hb hby d20_0)
  have pre2 : own_Go p e below S0 (T1.setTop (mkF m 38 #[.val (.ref a1), .val (.int (5 : Int32)), .val (.int p3)] [(.int p3), (.int (4 : Int32)), (.ref a1)])) := by
    intro t kt
    refine pre0 t ?_
    refine st1 _ ?_
    show Steps p.tables e below (T1.setTop (mkF m 3 #[.val (.ref a1), .val (.int (2 : Int32)), .val (.int p3)] [(.int (1 : Int32))])) _
    refine XS.ifYes X1.here hx rfl (pc0 := 3) (pc' := 28) rfl (hb hby d20_3) rfl ((if0 _ _).trans (feq (by decide : ¬ ((1 : Int32) = (0 : Int32)))).2) (by decide) (by decide) ?_
    show Steps p.tables e below (T1.setTop (mkF m 28 #[.val (.ref a1), .val (.int (2 : Int32)), .val (.int p3)] [])) _
    refine XS.iloadN X1.here hx rfl (hb hby d20_28) rfl ?_
    show Steps p.tables e below (T1.setTop (mkF m 29 #[.val (.ref a1), .val (.int (2 : Int32)), .val (.int p3)] [(.int (2 : Int32))])) _
    refine XS.iconst X1.here hx rfl (hb hby d20_29) ?_
    show Steps p.tables e below (T1.setTop (mkF m 30 #[.val (.ref a1), .val (.int (2 : Int32)), .val (.int p3)] [(.int (1 : Int32)), (.int (2 : Int32))])) _
    refine XS.ishl X1.here hx rfl (hb hby d20_30) rfl ?_
    show Steps p.tables e below (T1.setTop (mkF m 31 #[.val (.ref a1), .val (.int (2 : Int32)), .val (.int p3)] [(.int (4 : Int32))])) _
    refine XS.istoreN X1.here hx rfl (hb hby d20_31) rfl (l' := #[.val (.ref a1), .val (.int (4 : Int32)), .val (.int p3)]) rfl ?_
    show Steps p.tables e below (T1.setTop (mkF m 32 #[.val (.ref a1), .val (.int (4 : Int32)), .val (.int p3)] [])) _
    refine XS.aloadN X1.here hx rfl (hb hby d20_32) rfl rfl ?_
    show Steps p.tables e below (T1.setTop (mkF m 33 #[.val (.ref a1), .val (.int (4 : Int32)), .val (.int p3)] [(.ref a1)])) _
    refine XS.iloadN X1.here hx rfl (hb hby d20_33) rfl ?_
    show Steps p.tables e below (T1.setTop (mkF m 34 #[.val (.ref a1), .val (.int (4 : Int32)), .val (.int p3)] [(.int (4 : Int32)), (.ref a1)])) _
    refine XS.iinc X1.here hx rfl (hb hby d20_34) rfl (l' := #[.val (.ref a1), .val (.int (5 : Int32)), .val (.int p3)]) rfl ?_
    show Steps p.tables e below (T1.setTop (mkF m 37 #[.val (.ref a1), .val (.int (5 : Int32)), .val (.int p3)] [(.int (4 : Int32)), (.ref a1)])) _
    refine XS.iloadN X1.here hx rfl (hb hby d20_37) rfl ?_
    show Steps p.tables e below (T1.setTop (mkF m 38 #[.val (.ref a1), .val (.int (5 : Int32)), .val (.int p3)] [(.int p3), (.int (4 : Int32)), (.ref a1)])) _
    exact kt
  obtain ⟨T3, X3, e3, st3⟩ := getS2 X1 hx hZ hown (host := "") (Or.inl (hw _ (own_w 103 rfl))) Via.refl e1 (SH.ext O0.2) (g := (mkF m 38 #[.val (.ref a1), .val (.int (5 : Int32)), .val (.int p3)] [(.int p3), (.int (4 : Int32)), (.ref a1)])) rfl (hb hby d20_38)
  have pre4 : own_Go p e below S0 (T3.setTop (mkF m 43 #[.val (.ref a1), .val (.int (5 : Int32)), .val (.int p3)] [(.int ((p3 >>> ((0 : Int32) &&& 31)).toInt8.toInt32)), (.int (4 : Int32)), (.ref a1)])) := by
    intro t kt
    refine pre2 t ?_
    refine st3 _ ?_
    show Steps p.tables e below (T3.setTop (mkF m 41 #[.val (.ref a1), .val (.int (5 : Int32)), .val (.int p3)] [(.int (0 : Int32)), (.int p3), (.int (4 : Int32)), (.ref a1)])) _
    refine XS.ishr X3.here hx rfl (hb hby d20_41) rfl ?_
    show Steps p.tables e below (T3.setTop (mkF m 42 #[.val (.ref a1), .val (.int (5 : Int32)), .val (.int p3)] [(.int (p3 >>> ((0 : Int32) &&& 31))), (.int (4 : Int32)), (.ref a1)])) _
    refine XS.i2b X3.here hx rfl (hb hby d20_42) rfl ?_
    show Steps p.tables e below (T3.setTop (mkF m 43 #[.val (.ref a1), .val (.int (5 : Int32)), .val (.int p3)] [(.int ((p3 >>> ((0 : Int32) &&& 31)).toInt8.toInt32)), (.int (4 : Int32)), (.ref a1)])) _
    exact kt
  obtain ⟨cl5, Ar5, q5, Sz5, Ng5, Hs5, Gt5⟩ := id V1
  have hin5 : ¬ ((4 : Int32) < 0 ∨ cl5.slots.size ≤ ((4 : Int32)).toNatClampNeg) := inb_of Sz5 ⟨by decide, by decide⟩
  obtain ⟨T5, h5, X5, e5, W5, st5⟩ := stB X3 hx hZ e3 Ar5 (j := (4 : Int32)) hin5 (g := (mkF m 43 #[.val (.ref a1), .val (.int (5 : Int32)), .val (.int p3)] [(.int ((p3 >>> ((0 : Int32) &&& 31)).toInt8.toInt32)), (.int (4 : Int32)), (.ref a1)])) rfl rfl (hb hby d20_43)
  have N5 := Fr.snoc X5 N0 g1
  have zs6 : n0 ≤ h5.size := Nat.le_trans Z0 (Keep.of_wr W5).1
  have kc7 : Keep h0 h5 [a1] := kc0.wr W5 (Or.inl (List.mem_of_getElem? (i := 0) rfl))
  have V5 : Arv Z h5 a1 k1 .byte (8 : Int32) [u0, u1, u2, u3, (.int (nar .byte ((p3 >>> ((0 : Int32) &&& 31)).toInt8.toInt32))), u5, u6, u7] (.int (0 : Int32)) := Arv.set Ar5 q5 Sz5 Ng5 Hs5 Gt5 (fits_nar_byte _) W5 4 rfl (Nat.le_of_ble_eq_true rfl)
  have pre8 : own_Go p e below S0 (T5.setTop (mkF m 47 #[.val (.ref a1), .val (.int (5 : Int32)), .val (.int p3)] [(.int p3), (.int (5 : Int32)), (.ref a1)])) := by
    intro t kt
    refine pre4 t ?_
    refine st5 _ ?_
    show Steps p.tables e below (T5.setTop (mkF m 44 #[.val (.ref a1), .val (.int (5 : Int32)), .val (.int p3)] [])) _
    refine XS.aloadN X5.here hx rfl (hb hby d20_44) rfl rfl ?_
    show Steps p.tables e below (T5.setTop (mkF m 45 #[.val (.ref a1), .val (.int (5 : Int32)), .val (.int p3)] [(.ref a1)])) _
    refine XS.iloadN X5.here hx rfl (hb hby d20_45) rfl ?_
    show Steps p.tables e below (T5.setTop (mkF m 46 #[.val (.ref a1), .val (.int (5 : Int32)), .val (.int p3)] [(.int (5 : Int32)), (.ref a1)])) _
    refine XS.iloadN X5.here hx rfl (hb hby d20_46) rfl ?_
    show Steps p.tables e below (T5.setTop (mkF m 47 #[.val (.ref a1), .val (.int (5 : Int32)), .val (.int p3)] [(.int p3), (.int (5 : Int32)), (.ref a1)])) _
    exact kt
  have f9 : Old Z n0 h5 := (O0.wr W5 g1)
  obtain ⟨T10, X10, e10, st10⟩ := getS2 X5 hx hZ hown (host := "") (Or.inl (hw _ (own_w 104 rfl))) Via.refl e5 (SL.ext f9.2) (g := (mkF m 47 #[.val (.ref a1), .val (.int (5 : Int32)), .val (.int p3)] [(.int p3), (.int (5 : Int32)), (.ref a1)])) rfl (hb hby d20_47)
  have pre11 : own_Go p e below S0 (T10.setTop (mkF m 52 #[.val (.ref a1), .val (.int (5 : Int32)), .val (.int p3)] [(.int ((p3 >>> ((8 : Int32) &&& 31)).toInt8.toInt32)), (.int (5 : Int32)), (.ref a1)])) := by
    intro t kt
    refine pre8 t ?_
    refine st10 _ ?_
    show Steps p.tables e below (T10.setTop (mkF m 50 #[.val (.ref a1), .val (.int (5 : Int32)), .val (.int p3)] [(.int (8 : Int32)), (.int p3), (.int (5 : Int32)), (.ref a1)])) _
    refine XS.ishr X10.here hx rfl (hb hby d20_50) rfl ?_
    show Steps p.tables e below (T10.setTop (mkF m 51 #[.val (.ref a1), .val (.int (5 : Int32)), .val (.int p3)] [(.int (p3 >>> ((8 : Int32) &&& 31))), (.int (5 : Int32)), (.ref a1)])) _
    refine XS.i2b X10.here hx rfl (hb hby d20_51) rfl ?_
    show Steps p.tables e below (T10.setTop (mkF m 52 #[.val (.ref a1), .val (.int (5 : Int32)), .val (.int p3)] [(.int ((p3 >>> ((8 : Int32) &&& 31)).toInt8.toInt32)), (.int (5 : Int32)), (.ref a1)])) _
    exact kt
  obtain ⟨cl12, Ar12, q12, Sz12, Ng12, Hs12, Gt12⟩ := id V5
  have hin12 : ¬ ((5 : Int32) < 0 ∨ cl12.slots.size ≤ ((5 : Int32)).toNatClampNeg) := inb_of Sz12 ⟨by decide, by decide⟩
  obtain ⟨T12, h12, X12, e12, W12, st12⟩ := stB X10 hx hZ e10 Ar12 (j := (5 : Int32)) hin12 (g := (mkF m 52 #[.val (.ref a1), .val (.int (5 : Int32)), .val (.int p3)] [(.int ((p3 >>> ((8 : Int32) &&& 31)).toInt8.toInt32)), (.int (5 : Int32)), (.ref a1)])) rfl rfl (hb hby d20_52)
  have N12 := Fr.snoc X12 N5 g1
  have zs13 : n0 ≤ h12.size := Nat.le_trans zs6 (Keep.of_wr W12).1
  have kc14 : Keep h0 h12 [a1] := kc7.wr W12 (Or.inl (List.mem_of_getElem? (i := 0) rfl))
  have V12 : Arv Z h12 a1 k1 .byte (8 : Int32) [u0, u1, u2, u3, (.int (nar .byte ((p3 >>> ((0 : Int32) &&& 31)).toInt8.toInt32))), (.int (nar .byte ((p3 >>> ((8 : Int32) &&& 31)).toInt8.toInt32))), u6, u7] (.int (0 : Int32)) := Arv.set Ar12 q12 Sz12 Ng12 Hs12 Gt12 (fits_nar_byte _) W12 5 rfl (Nat.le_of_ble_eq_true rfl)
  have pre15 : own_Go p e below S0 (T12.setTop (mkF m 53 #[.val (.ref a1), .val (.int (5 : Int32)), .val (.int p3)] [])) := by
    intro t kt
    refine pre11 t ?_
    refine st12 _ ?_
    show Steps p.tables e below (T12.setTop (mkF m 53 #[.val (.ref a1), .val (.int (5 : Int32)), .val (.int p3)] [])) _
    exact kt
  obtain ⟨fs, hr, hrun, hended, hW, hsame⟩ := X12.leave (v := none) (fun _ => rfl)
  refine ⟨_, _, fin _ (pre15 _ ?_), hrun, hended, _, _, rfl, ?_, ⟨_, rfl⟩, hW, hsame.mono (by decide) (by decide)⟩
  · exact X12.returnOut hx Bd.returns (hb hby d20_53) hr
  · show Qputc_2_8 Z a1 p3 k1 u0 u1 u2 u3 u4 u5 u6 u7 h0 n0 _ T12.heap _
    rw [e12]
    exact ⟨rfl, N12, kc14, V12⟩

theorem ef_putc_3_8 (m : MethodId) (x0 : Addr) (x2 : Int32) : entryFrame m #[(.ref x0), (.int (3 : Int32)), (.int x2)] 3 = mkF m 0 #[.val (.ref x0), .val (.int (3 : Int32)), .val (.int x2)] [] := by first | (simp [entryFrame, mkF, argsToLocals, Value.category]; done) | rfl
def Qputc_3_8 (Z : State) (a1 : Addr) (p3 : Int32) (k1 : ClassId) (u0 : Value) (u1 : Value) (u2 : Value) (u3 : Value) (u4 : Value) (u5 : Value) (u6 : Value) (u7 : Value) (h0 : Heap) (n0 : Nat) (v : Option Value) (h : Heap) (L : List Loc) : Prop := v = none ∧ Fr n0 L ∧ Keep h0 h [a1] ∧ Arv Z h a1 k1 .byte (8 : Int32) [u0, u1, u2, u3, u4, u5, (.int (nar .byte ((p3 >>> ((0 : Int32) &&& 31)).toInt8.toInt32))), (.int (nar .byte ((p3 >>> ((8 : Int32) &&& 31)).toInt8.toInt32)))] (.int (0 : Int32))
set_option maxRecDepth 65536 in
set_option maxHeartbeats 40000000 in
theorem rmputc_3_8 (l : Launch) (Z : State) (a0 : Array Value) (hw : ∀ d ∈ tables_1, d.before a0 Z = true) (ws : List Jvm.Cond) (a1 : Addr) (p3 : Int32) (k1 : ClassId) (u0 : Value) (u1 : Value) (u2 : Value) (u3 : Value) (u4 : Value) (u5 : Value) (u6 : Value) (u7 : Value) (h0 : Heap) (n0 : Nat) (Z0 : n0 ≤ h0.size) (O0 : Old Z n0 h0) (SA : Sta Z Z.heap "java/lang/StringUTF16" "$assertionsDisabled" "Z" (.int (1 : Int32))) (SH : Sta Z Z.heap "java/lang/StringUTF16" "HI_BYTE_SHIFT" "I" (.int (0 : Int32))) (SL : Sta Z Z.heap "java/lang/StringUTF16" "LO_BYTE_SHIFT" "I" (.int (8 : Int32))) (g1 : n0 ≤ a1) (V1 : Arv Z h0 a1 k1 .byte (8 : Int32) [u0, u1, u2, u3, u4, u5, u6, u7] (.int (0 : Int32))) :
    MetFree l (⟨"java/lang/StringUTF16", "putChar", "([BII)V"⟩ : MethodName) (head1 (Jvm.Cond.code (⟨"java/lang/StringUTF16", "putChar", "([BII)V"⟩ : MethodName) jdk_52_method_4_code 3 none :: ws) ({ frames := 0, cells := 0, slots := 0, locals := 0 } : Room)) (fun a U => a = #[(.ref a1), (.int (3 : Int32)), (.int p3)] ∧ Z.Warmed39 U.vm ∧ U.heap = h0) (fun _ _ _ _ _ => True) (fun _ U o U' => ∃ v L, o = .returned v ∧ Qputc_3_8 Z a1 p3 k1 u0 u1 u2 u3 u4 u5 u6 u7 h0 n0 v U'.heap L ∧ FrameEnd U o U' L ({ frames := 0, cells := 0, slots := 0, locals := 0 } : Room).cells ({ frames := 0, cells := 0, slots := 0, locals := 0 } : Room).slots) := by
  refine MetFree.of_bodySF (plainFor_of_name pn_20) hisR ?_
  intro p e s m args below meth c s₁ Bd hml0 hP hK
  obtain ⟨rfl, hZ, hh⟩ := hP
  have hx := Bd.exec
  have hby := Bd.bytes
  have hml : c.maxLocals = 3 := hml0
  have hown0 := findClass_of_methodNamed Bd.named
  have hown : s.vm.findClass "java/lang/StringUTF16" = some m.cls := hown0
  have hnm := (name_of_methodNamed Bd.named Bd.method).1
  have X0 : Stand p l e ({ frames := 0, cells := 0, slots := 0, locals := 0 } : Room) s m #[(.ref a1), (.int (3 : Int32)), (.int p3)] below meth c s₁ [] 0 0 := Stand.of_body Bd
  have e0 : s₁.heap = h0 := by rw [← hh, Bd.state]; rfl
  have N0 := Fr.nil n0
  obtain ⟨S0, hS0⟩ : ∃ z, z = s₁.setTop (entryFrame m #[(.ref a1), (.int (3 : Int32)), (.int p3)] 3) := ⟨_, rfl⟩
  have pre0 : own_Go p e below S0 (s₁.setTop (mkF m 0 #[.val (.ref a1), .val (.int (3 : Int32)), .val (.int p3)] [])) := fun t k => by rw [hS0]; exact castTop (ef_putc_3_8 m a1 p3) k
  have fin : ∀ t, Steps p.tables e below S0 t → Steps p.tables e below (s₁.setTop (entryFrame m #[(.ref a1), (.int (3 : Int32)), (.int p3)] 3)) t := fun t k => by rw [hS0] at k; exact k
  have kc0 : Keep h0 h0 [a1] := Keep.refl _ _
  obtain ⟨T1, X1, e1, st1⟩ := getS2 X0 hx hZ hown (host := "") (Or.inl (hw _ (own_w 102 rfl))) Via.refl e0 (SA.ext O0.2) (g := (mkF m 0 #[.val (.ref a1), .val (.int (3 : Int32)), .val (.int p3)] [])) rfl (hb hby d20_0)
  have pre2 : own_Go p e below S0 (T1.setTop (mkF m 38 #[.val (.ref a1), .val (.int (7 : Int32)), .val (.int p3)] [(.int p3), (.int (6 : Int32)), (.ref a1)])) := by
    intro t kt
    refine pre0 t ?_
    refine st1 _ ?_
    show Steps p.tables e below (T1.setTop (mkF m 3 #[.val (.ref a1), .val (.int (3 : Int32)), .val (.int p3)] [(.int (1 : Int32))])) _
    refine XS.ifYes X1.here hx rfl (pc0 := 3) (pc' := 28) rfl (hb hby d20_3) rfl ((if0 _ _).trans (feq (by decide : ¬ ((1 : Int32) = (0 : Int32)))).2) (by decide) (by decide) ?_
    show Steps p.tables e below (T1.setTop (mkF m 28 #[.val (.ref a1), .val (.int (3 : Int32)), .val (.int p3)] [])) _
    refine XS.iloadN X1.here hx rfl (hb hby d20_28) rfl ?_
    show Steps p.tables e below (T1.setTop (mkF m 29 #[.val (.ref a1), .val (.int (3 : Int32)), .val (.int p3)] [(.int (3 : Int32))])) _
    refine XS.iconst X1.here hx rfl (hb hby d20_29) ?_
    show Steps p.tables e below (T1.setTop (mkF m 30 #[.val (.ref a1), .val (.int (3 : Int32)), .val (.int p3)] [(.int (1 : Int32)), (.int (3 : Int32))])) _
    refine XS.ishl X1.here hx rfl (hb hby d20_30) rfl ?_
    show Steps p.tables e below (T1.setTop (mkF m 31 #[.val (.ref a1), .val (.int (3 : Int32)), .val (.int p3)] [(.int (6 : Int32))])) _
    refine XS.istoreN X1.here hx rfl (hb hby d20_31) rfl (l' := #[.val (.ref a1), .val (.int (6 : Int32)), .val (.int p3)]) rfl ?_
    show Steps p.tables e below (T1.setTop (mkF m 32 #[.val (.ref a1), .val (.int (6 : Int32)), .val (.int p3)] [])) _
    refine XS.aloadN X1.here hx rfl (hb hby d20_32) rfl rfl ?_
    show Steps p.tables e below (T1.setTop (mkF m 33 #[.val (.ref a1), .val (.int (6 : Int32)), .val (.int p3)] [(.ref a1)])) _
    refine XS.iloadN X1.here hx rfl (hb hby d20_33) rfl ?_
    show Steps p.tables e below (T1.setTop (mkF m 34 #[.val (.ref a1), .val (.int (6 : Int32)), .val (.int p3)] [(.int (6 : Int32)), (.ref a1)])) _
    refine XS.iinc X1.here hx rfl (hb hby d20_34) rfl (l' := #[.val (.ref a1), .val (.int (7 : Int32)), .val (.int p3)]) rfl ?_
    show Steps p.tables e below (T1.setTop (mkF m 37 #[.val (.ref a1), .val (.int (7 : Int32)), .val (.int p3)] [(.int (6 : Int32)), (.ref a1)])) _
    refine XS.iloadN X1.here hx rfl (hb hby d20_37) rfl ?_
    show Steps p.tables e below (T1.setTop (mkF m 38 #[.val (.ref a1), .val (.int (7 : Int32)), .val (.int p3)] [(.int p3), (.int (6 : Int32)), (.ref a1)])) _
    exact kt
  obtain ⟨T3, X3, e3, st3⟩ := getS2 X1 hx hZ hown (host := "") (Or.inl (hw _ (own_w 103 rfl))) Via.refl e1 (SH.ext O0.2) (g := (mkF m 38 #[.val (.ref a1), .val (.int (7 : Int32)), .val (.int p3)] [(.int p3), (.int (6 : Int32)), (.ref a1)])) rfl (hb hby d20_38)
  have pre4 : own_Go p e below S0 (T3.setTop (mkF m 43 #[.val (.ref a1), .val (.int (7 : Int32)), .val (.int p3)] [(.int ((p3 >>> ((0 : Int32) &&& 31)).toInt8.toInt32)), (.int (6 : Int32)), (.ref a1)])) := by
    intro t kt
    refine pre2 t ?_
    refine st3 _ ?_
    show Steps p.tables e below (T3.setTop (mkF m 41 #[.val (.ref a1), .val (.int (7 : Int32)), .val (.int p3)] [(.int (0 : Int32)), (.int p3), (.int (6 : Int32)), (.ref a1)])) _
    refine XS.ishr X3.here hx rfl (hb hby d20_41) rfl ?_
    show Steps p.tables e below (T3.setTop (mkF m 42 #[.val (.ref a1), .val (.int (7 : Int32)), .val (.int p3)] [(.int (p3 >>> ((0 : Int32) &&& 31))), (.int (6 : Int32)), (.ref a1)])) _
    refine XS.i2b X3.here hx rfl (hb hby d20_42) rfl ?_
    show Steps p.tables e below (T3.setTop (mkF m 43 #[.val (.ref a1), .val (.int (7 : Int32)), .val (.int p3)] [(.int ((p3 >>> ((0 : Int32) &&& 31)).toInt8.toInt32)), (.int (6 : Int32)), (.ref a1)])) _
    exact kt
  obtain ⟨cl5, Ar5, q5, Sz5, Ng5, Hs5, Gt5⟩ := id V1
  have hin5 : ¬ ((6 : Int32) < 0 ∨ cl5.slots.size ≤ ((6 : Int32)).toNatClampNeg) := inb_of Sz5 ⟨by decide, by decide⟩
  obtain ⟨T5, h5, X5, e5, W5, st5⟩ := stB X3 hx hZ e3 Ar5 (j := (6 : Int32)) hin5 (g := (mkF m 43 #[.val (.ref a1), .val (.int (7 : Int32)), .val (.int p3)] [(.int ((p3 >>> ((0 : Int32) &&& 31)).toInt8.toInt32)), (.int (6 : Int32)), (.ref a1)])) rfl rfl (hb hby d20_43)
  have N5 := Fr.snoc X5 N0 g1
  have zs6 : n0 ≤ h5.size := Nat.le_trans Z0 (Keep.of_wr W5).1
  have kc7 : Keep h0 h5 [a1] := kc0.wr W5 (Or.inl (List.mem_of_getElem? (i := 0) rfl))
  have V5 : Arv Z h5 a1 k1 .byte (8 : Int32) [u0, u1, u2, u3, u4, u5, (.int (nar .byte ((p3 >>> ((0 : Int32) &&& 31)).toInt8.toInt32))), u7] (.int (0 : Int32)) := Arv.set Ar5 q5 Sz5 Ng5 Hs5 Gt5 (fits_nar_byte _) W5 6 rfl (Nat.le_of_ble_eq_true rfl)
  have pre8 : own_Go p e below S0 (T5.setTop (mkF m 47 #[.val (.ref a1), .val (.int (7 : Int32)), .val (.int p3)] [(.int p3), (.int (7 : Int32)), (.ref a1)])) := by
    intro t kt
    refine pre4 t ?_
    refine st5 _ ?_
    show Steps p.tables e below (T5.setTop (mkF m 44 #[.val (.ref a1), .val (.int (7 : Int32)), .val (.int p3)] [])) _
    refine XS.aloadN X5.here hx rfl (hb hby d20_44) rfl rfl ?_
    show Steps p.tables e below (T5.setTop (mkF m 45 #[.val (.ref a1), .val (.int (7 : Int32)), .val (.int p3)] [(.ref a1)])) _
    refine XS.iloadN X5.here hx rfl (hb hby d20_45) rfl ?_
    show Steps p.tables e below (T5.setTop (mkF m 46 #[.val (.ref a1), .val (.int (7 : Int32)), .val (.int p3)] [(.int (7 : Int32)), (.ref a1)])) _
    refine XS.iloadN X5.here hx rfl (hb hby d20_46) rfl ?_
    show Steps p.tables e below (T5.setTop (mkF m 47 #[.val (.ref a1), .val (.int (7 : Int32)), .val (.int p3)] [(.int p3), (.int (7 : Int32)), (.ref a1)])) _
    exact kt
  have f9 : Old Z n0 h5 := (O0.wr W5 g1)
  obtain ⟨T10, X10, e10, st10⟩ := getS2 X5 hx hZ hown (host := "") (Or.inl (hw _ (own_w 104 rfl))) Via.refl e5 (SL.ext f9.2) (g := (mkF m 47 #[.val (.ref a1), .val (.int (7 : Int32)), .val (.int p3)] [(.int p3), (.int (7 : Int32)), (.ref a1)])) rfl (hb hby d20_47)
  have pre11 : own_Go p e below S0 (T10.setTop (mkF m 52 #[.val (.ref a1), .val (.int (7 : Int32)), .val (.int p3)] [(.int ((p3 >>> ((8 : Int32) &&& 31)).toInt8.toInt32)), (.int (7 : Int32)), (.ref a1)])) := by
    intro t kt
    refine pre8 t ?_
    refine st10 _ ?_
    show Steps p.tables e below (T10.setTop (mkF m 50 #[.val (.ref a1), .val (.int (7 : Int32)), .val (.int p3)] [(.int (8 : Int32)), (.int p3), (.int (7 : Int32)), (.ref a1)])) _
    refine XS.ishr X10.here hx rfl (hb hby d20_50) rfl ?_
    show Steps p.tables e below (T10.setTop (mkF m 51 #[.val (.ref a1), .val (.int (7 : Int32)), .val (.int p3)] [(.int (p3 >>> ((8 : Int32) &&& 31))), (.int (7 : Int32)), (.ref a1)])) _
    refine XS.i2b X10.here hx rfl (hb hby d20_51) rfl ?_
    show Steps p.tables e below (T10.setTop (mkF m 52 #[.val (.ref a1), .val (.int (7 : Int32)), .val (.int p3)] [(.int ((p3 >>> ((8 : Int32) &&& 31)).toInt8.toInt32)), (.int (7 : Int32)), (.ref a1)])) _
    exact kt
  obtain ⟨cl12, Ar12, q12, Sz12, Ng12, Hs12, Gt12⟩ := id V5
  have hin12 : ¬ ((7 : Int32) < 0 ∨ cl12.slots.size ≤ ((7 : Int32)).toNatClampNeg) := inb_of Sz12 ⟨by decide, by decide⟩
  obtain ⟨T12, h12, X12, e12, W12, st12⟩ := stB X10 hx hZ e10 Ar12 (j := (7 : Int32)) hin12 (g := (mkF m 52 #[.val (.ref a1), .val (.int (7 : Int32)), .val (.int p3)] [(.int ((p3 >>> ((8 : Int32) &&& 31)).toInt8.toInt32)), (.int (7 : Int32)), (.ref a1)])) rfl rfl (hb hby d20_52)
  have N12 := Fr.snoc X12 N5 g1
  have zs13 : n0 ≤ h12.size := Nat.le_trans zs6 (Keep.of_wr W12).1
  have kc14 : Keep h0 h12 [a1] := kc7.wr W12 (Or.inl (List.mem_of_getElem? (i := 0) rfl))
  have V12 : Arv Z h12 a1 k1 .byte (8 : Int32) [u0, u1, u2, u3, u4, u5, (.int (nar .byte ((p3 >>> ((0 : Int32) &&& 31)).toInt8.toInt32))), (.int (nar .byte ((p3 >>> ((8 : Int32) &&& 31)).toInt8.toInt32)))] (.int (0 : Int32)) := Arv.set Ar12 q12 Sz12 Ng12 Hs12 Gt12 (fits_nar_byte _) W12 7 rfl (Nat.le_of_ble_eq_true rfl)
  have pre15 : own_Go p e below S0 (T12.setTop (mkF m 53 #[.val (.ref a1), .val (.int (7 : Int32)), .val (.int p3)] [])) := by
    intro t kt
    refine pre11 t ?_
    refine st12 _ ?_
    show Steps p.tables e below (T12.setTop (mkF m 53 #[.val (.ref a1), .val (.int (7 : Int32)), .val (.int p3)] [])) _
    exact kt
  obtain ⟨fs, hr, hrun, hended, hW, hsame⟩ := X12.leave (v := none) (fun _ => rfl)
  refine ⟨_, _, fin _ (pre15 _ ?_), hrun, hended, _, _, rfl, ?_, ⟨_, rfl⟩, hW, hsame.mono (by decide) (by decide)⟩
  · exact X12.returnOut hx Bd.returns (hb hby d20_53) hr
  · show Qputc_3_8 Z a1 p3 k1 u0 u1 u2 u3 u4 u5 u6 u7 h0 n0 _ T12.heap _
    rw [e12]
    exact ⟨rfl, N12, kc14, V12⟩

theorem d17_0 : decode jdk_52_method_14_code 0 = .ok (.iload_n 2, 1) := by decide +kernel
theorem d17_1 : decode jdk_52_method_14_code 1 = .ok (.invokestatic 107, 3) := by decide +kernel
theorem d17_4 : decode jdk_52_method_14_code 4 = .ok (.astore_n 3, 1) := by decide +kernel
theorem d17_5 : decode jdk_52_method_14_code 5 = .ok (.iconst 0, 1) := by decide +kernel
theorem d17_6 : decode jdk_52_method_14_code 6 = .ok (.istore 4, 2) := by decide +kernel
theorem d17_8 : decode jdk_52_method_14_code 8 = .ok (.iload 4, 2) := by decide +kernel
theorem d17_10 : decode jdk_52_method_14_code 10 = .ok (.iload_n 2, 1) := by decide +kernel
theorem d17_11 : decode jdk_52_method_14_code 11 = .ok (.if_icmp .ge 21, 3) := by decide +kernel
theorem d17_14 : decode jdk_52_method_14_code 14 = .ok (.aload_n 3, 1) := by decide +kernel
theorem d17_15 : decode jdk_52_method_14_code 15 = .ok (.iload 4, 2) := by decide +kernel
theorem d17_17 : decode jdk_52_method_14_code 17 = .ok (.aload_n 0, 1) := by decide +kernel
theorem d17_18 : decode jdk_52_method_14_code 18 = .ok (.iload_n 1, 1) := by decide +kernel
theorem d17_19 : decode jdk_52_method_14_code 19 = .ok (.caload, 1) := by decide +kernel
theorem d17_20 : decode jdk_52_method_14_code 20 = .ok (.invokestatic 111, 3) := by decide +kernel
theorem d17_23 : decode jdk_52_method_14_code 23 = .ok (.iinc 1 1, 3) := by decide +kernel
theorem d17_26 : decode jdk_52_method_14_code 26 = .ok (.iinc 4 1, 3) := by decide +kernel
theorem d17_29 : decode jdk_52_method_14_code 29 = .ok (.goto (-21), 3) := by decide +kernel
theorem d17_32 : decode jdk_52_method_14_code 32 = .ok (.aload_n 3, 1) := by decide +kernel
theorem d17_33 : decode jdk_52_method_14_code 33 = .ok (.areturn, 1) := by decide +kernel
theorem pn_17 : plainName "java/lang/StringUTF16" = true := by first | (simp [plainName, overriddenIn]; done) | decide +kernel
theorem pd_1 : parseMethodDescriptor "(I)[B" = some ⟨[.int], some (.array .byte)⟩ := by decide +kernel
theorem pd_2 : parseMethodDescriptor "([BII)V" = some ⟨[(.array .byte), .int, .int], none⟩ := by decide +kernel
theorem ef_toB_4 (m : MethodId) (x0 : Addr) : entryFrame m #[(.ref x0), (.int (0 : Int32)), (.int (4 : Int32))] 5 = mkF m 0 #[.val (.ref x0), .val (.int (0 : Int32)), .val (.int (4 : Int32)), .unset, .unset] [] := by first | (simp [entryFrame, mkF, argsToLocals, Value.category]; done) | rfl
def QtoB_4 (Z : State) (a1 : Addr) (kc : ClassId) (c0 : Int32) (c1 : Int32) (c2 : Int32) (c3 : Int32) (h0 : Heap) (n0 : Nat) (v : Option Value) (h : Heap) (L : List Loc) : Prop := ∃ b : Addr, ∃ kb : ClassId, v = (some (.ref b)) ∧ Fr n0 L ∧ Keep h0 h [] ∧ h0.size ≤ b ∧ Arv Z h b kb .byte (8 : Int32) [(.int (nar .byte ((c0 >>> ((0 : Int32) &&& 31)).toInt8.toInt32))), (.int (nar .byte ((c0 >>> ((8 : Int32) &&& 31)).toInt8.toInt32))), (.int (nar .byte ((c1 >>> ((0 : Int32) &&& 31)).toInt8.toInt32))), (.int (nar .byte ((c1 >>> ((8 : Int32) &&& 31)).toInt8.toInt32))), (.int (nar .byte ((c2 >>> ((0 : Int32) &&& 31)).toInt8.toInt32))), (.int (nar .byte ((c2 >>> ((8 : Int32) &&& 31)).toInt8.toInt32))), (.int (nar .byte ((c3 >>> ((0 : Int32) &&& 31)).toInt8.toInt32))), (.int (nar .byte ((c3 >>> ((8 : Int32) &&& 31)).toInt8.toInt32)))] (.int (0 : Int32))
set_option maxRecDepth 65536 in
set_option maxHeartbeats 40000000 in
theorem rmtoB_4 (l : Launch) (Z : State) (a0 : Array Value) (hw : ∀ d ∈ tables_1, d.before a0 Z = true) (ws : List Jvm.Cond) (a1 : Addr) (kc : ClassId) (c0 : Int32) (c1 : Int32) (c2 : Int32) (c3 : Int32) (h0 : Heap) (n0 : Nat) (Z0 : n0 ≤ h0.size) (O0 : Old Z n0 h0) (SA : Sta Z Z.heap "java/lang/StringUTF16" "$assertionsDisabled" "Z" (.int (1 : Int32))) (SH : Sta Z Z.heap "java/lang/StringUTF16" "HI_BYTE_SHIFT" "I" (.int (0 : Int32))) (SL : Sta Z Z.heap "java/lang/StringUTF16" "LO_BYTE_SHIFT" "I" (.int (8 : Int32))) (VC : Arv Z h0 a1 kc .char (4 : Int32) [(.int c0), (.int c1), (.int c2), (.int c3)] (.int (0 : Int32))) :
    MetFree l (⟨"java/lang/StringUTF16", "toBytes", "([CII)[B"⟩ : MethodName) (head1 (Jvm.Cond.code (⟨"java/lang/StringUTF16", "toBytes", "([CII)[B"⟩ : MethodName) jdk_52_method_14_code 5 (some (.array .byte)) :: ws) ({ frames := 2, cells := 1, slots := 8, locals := 24 } : Room)) (fun a U => a = #[(.ref a1), (.int (0 : Int32)), (.int (4 : Int32))] ∧ Z.Warmed39 U.vm ∧ U.heap = h0) (fun _ _ _ _ _ => True) (fun _ U o U' => ∃ v L, o = .returned v ∧ QtoB_4 Z a1 kc c0 c1 c2 c3 h0 n0 v U'.heap L ∧ FrameEnd U o U' L ({ frames := 2, cells := 1, slots := 8, locals := 24 } : Room).cells ({ frames := 2, cells := 1, slots := 8, locals := 24 } : Room).slots) := by
  refine MetFree.of_bodySF (plainFor_of_name pn_17) hisR ?_
  intro p e s m args below meth c s₁ Bd hml0 hP hK
  obtain ⟨rfl, hZ, hh⟩ := hP
  have hx := Bd.exec
  have hby := Bd.bytes
  have hml : c.maxLocals = 5 := hml0
  have hown0 := findClass_of_methodNamed Bd.named
  have hown : s.vm.findClass "java/lang/StringUTF16" = some m.cls := hown0
  have hnm := (name_of_methodNamed Bd.named Bd.method).1
  have X0 : Stand p l e ({ frames := 2, cells := 1, slots := 8, locals := 24 } : Room) s m #[(.ref a1), (.int (0 : Int32)), (.int (4 : Int32))] below meth c s₁ [] 0 0 := Stand.of_body Bd
  have e0 : s₁.heap = h0 := by rw [← hh, Bd.state]; rfl
  have N0 := Fr.nil n0
  obtain ⟨S0, hS0⟩ : ∃ z, z = s₁.setTop (entryFrame m #[(.ref a1), (.int (0 : Int32)), (.int (4 : Int32))] 5) := ⟨_, rfl⟩
  have pre0 : own_Go p e below S0 (s₁.setTop (mkF m 0 #[.val (.ref a1), .val (.int (0 : Int32)), .val (.int (4 : Int32)), .unset, .unset] [])) := fun t k => by rw [hS0]; exact castTop (ef_toB_4 m a1) k
  have fin : ∀ t, Steps p.tables e below S0 t → Steps p.tables e below (s₁.setTop (entryFrame m #[(.ref a1), (.int (0 : Int32)), (.int (4 : Int32))] 5)) t := fun t k => by rw [hS0] at k; exact k
  have kc0 : Keep h0 h0 [] := Keep.refl _ _
  have pre1 : own_Go p e below S0 (s₁.setTop (mkF m 1 #[.val (.ref a1), .val (.int (0 : Int32)), .val (.int (4 : Int32)), .unset, .unset] [(.int (4 : Int32))])) := by
    intro t kt
    refine pre0 t ?_
    refine XS.iloadN X0.here hx rfl (hb hby d17_0) rfl ?_
    show Steps p.tables e below (s₁.setTop (mkF m 1 #[.val (.ref a1), .val (.int (0 : Int32)), .val (.int (4 : Int32)), .unset, .unset] [(.int (4 : Int32))])) _
    exact kt
  obtain ⟨_, _, ⟨T2, L2, k2, n2⟩, -, X2, ⟨Lc2, hQ2, l2, y2, z2⟩, st2⟩ := Jvm.LawKit.callS X0 hx (y := (⟨"java/lang/StringUTF16", "newBytesFor", "(I)[B"⟩ : MethodName)) hown (mvT hZ (hw _ (own_w 92 rfl))) (mvT hZ (hw _ (own_w 93 rfl))) (mvT hZ (hw _ (own_w 44 rfl))) (mvT hZ (hw _ (own_w 94 rfl))) (by decide) (backOf (W := 0) (rmnfor_4 l Z a0 hw []  h0 n0 Z0 ) hZ (hw _ (own_w 94 rfl)) (hw _ (own_w 44 rfl)) (by decide) (by decide)) (g := (mkF m 1 #[.val (.ref a1), .val (.int (0 : Int32)), .val (.int (4 : Int32)), .unset, .unset] [(.int (4 : Int32))])) rfl (by rw [hml]; rfl) (argsL := [(.int (4 : Int32))]) (rest := []) (lenOf pd_1 rfl) rfl (by show 2 * 0 + _ ≤ _; exact Nat.le_of_eq rfl) (hb hby d17_1) (fun _ _ => ⟨rfl, e0, (by decide : 0 + 1 ≤ _), (by decide : 0 + 8 ≤ _)⟩)
  dsimp only [Pt.U, Pt.locs, Pt.cells, Pt.slots] at X2 l2 y2 z2 st2 hQ2
  subst l2 y2 z2
  obtain ⟨b3, kb4, rfl, Nq2, K2, g5, g6⟩ := hQ2
  have N2 := Fr.app N0 Nq2
  have ne7 : a1 ≠ b3 := Nat.ne_of_lt (Nat.lt_of_lt_of_le VC.lt g5)
  have ge8 : n0 ≤ b3 := Nat.le_trans Z0 g5
  have sz9 : h0.size ≤ b3 := Nat.le_trans kc0.1 g5
  have zs10 : n0 ≤ T2.heap.size := Nat.le_trans Z0 K2.1
  have kc11 : Keep h0 T2.heap [] := kc0.trans K2 all0
  have pre12 : own_Go p e below S0 (T2.setTop (mkF m 19 #[.val (.ref a1), .val (.int (0 : Int32)), .val (.int (4 : Int32)), .val (.ref b3), .val (.int (0 : Int32))] [(.int (0 : Int32)), (.ref a1), (.int (0 : Int32)), (.ref b3)])) := by
    intro t kt
    refine pre1 t ?_
    refine st2 _ ?_
    show Steps p.tables e below (T2.setTop (mkF m 4 #[.val (.ref a1), .val (.int (0 : Int32)), .val (.int (4 : Int32)), .unset, .unset] [(.ref b3)])) _
    refine XS.astoreN X2.here hx rfl (hb hby d17_4) rfl rfl (l' := #[.val (.ref a1), .val (.int (0 : Int32)), .val (.int (4 : Int32)), .val (.ref b3), .unset]) rfl ?_
    show Steps p.tables e below (T2.setTop (mkF m 5 #[.val (.ref a1), .val (.int (0 : Int32)), .val (.int (4 : Int32)), .val (.ref b3), .unset] [])) _
    refine XS.iconst X2.here hx rfl (hb hby d17_5) ?_
    show Steps p.tables e below (T2.setTop (mkF m 6 #[.val (.ref a1), .val (.int (0 : Int32)), .val (.int (4 : Int32)), .val (.ref b3), .unset] [(.int (0 : Int32))])) _
    refine XS.istore X2.here hx rfl (hb hby d17_6) rfl (l' := #[.val (.ref a1), .val (.int (0 : Int32)), .val (.int (4 : Int32)), .val (.ref b3), .val (.int (0 : Int32))]) rfl ?_
    show Steps p.tables e below (T2.setTop (mkF m 8 #[.val (.ref a1), .val (.int (0 : Int32)), .val (.int (4 : Int32)), .val (.ref b3), .val (.int (0 : Int32))] [])) _
    refine XS.iload X2.here hx rfl (hb hby d17_8) rfl ?_
    show Steps p.tables e below (T2.setTop (mkF m 10 #[.val (.ref a1), .val (.int (0 : Int32)), .val (.int (4 : Int32)), .val (.ref b3), .val (.int (0 : Int32))] [(.int (0 : Int32))])) _
    refine XS.iloadN X2.here hx rfl (hb hby d17_10) rfl ?_
    show Steps p.tables e below (T2.setTop (mkF m 11 #[.val (.ref a1), .val (.int (0 : Int32)), .val (.int (4 : Int32)), .val (.ref b3), .val (.int (0 : Int32))] [(.int (4 : Int32)), (.int (0 : Int32))])) _
    refine XS.icmpNo X2.here hx rfl (hb hby d17_11) rfl (tlt (by decide : (0 : Int32) < (4 : Int32))).2.1 ?_
    show Steps p.tables e below (T2.setTop (mkF m 14 #[.val (.ref a1), .val (.int (0 : Int32)), .val (.int (4 : Int32)), .val (.ref b3), .val (.int (0 : Int32))] [])) _
    refine XS.aloadN X2.here hx rfl (hb hby d17_14) rfl rfl ?_
    show Steps p.tables e below (T2.setTop (mkF m 15 #[.val (.ref a1), .val (.int (0 : Int32)), .val (.int (4 : Int32)), .val (.ref b3), .val (.int (0 : Int32))] [(.ref b3)])) _
    refine XS.iload X2.here hx rfl (hb hby d17_15) rfl ?_
    show Steps p.tables e below (T2.setTop (mkF m 17 #[.val (.ref a1), .val (.int (0 : Int32)), .val (.int (4 : Int32)), .val (.ref b3), .val (.int (0 : Int32))] [(.int (0 : Int32)), (.ref b3)])) _
    refine XS.aloadN X2.here hx rfl (hb hby d17_17) rfl rfl ?_
    show Steps p.tables e below (T2.setTop (mkF m 18 #[.val (.ref a1), .val (.int (0 : Int32)), .val (.int (4 : Int32)), .val (.ref b3), .val (.int (0 : Int32))] [(.ref a1), (.int (0 : Int32)), (.ref b3)])) _
    refine XS.iloadN X2.here hx rfl (hb hby d17_18) rfl ?_
    show Steps p.tables e below (T2.setTop (mkF m 19 #[.val (.ref a1), .val (.int (0 : Int32)), .val (.int (4 : Int32)), .val (.ref b3), .val (.int (0 : Int32))] [(.int (0 : Int32)), (.ref a1), (.int (0 : Int32)), (.ref b3)])) _
    exact kt
  have f13 : Arv Z T2.heap a1 kc .char (4 : Int32) [(.int c0), (.int c1), (.int c2), (.int c3)] (.int (0 : Int32)) := (VC.keep K2 nin0)
  obtain ⟨cl14, Ar14, -, Sz14, -, Hs14, -⟩ := id f13
  have hin14 : ¬ ((0 : Int32) < 0 ∨ cl14.slots.size ≤ ((0 : Int32)).toNatClampNeg) := inb_of Sz14 ⟨by decide, by decide⟩
  have pre15 : own_Go p e below S0 (T2.setTop (mkF m 20 #[.val (.ref a1), .val (.int (0 : Int32)), .val (.int (4 : Int32)), .val (.ref b3), .val (.int (0 : Int32))] [(.int c0), (.int (0 : Int32)), (.ref b3)])) := by
    intro t kt
    refine pre12 t ?_
    refine X2.caload hx (j := (0 : Int32)) (v := (.int c0)) Ar14.1 (State.isArrayOf_alike hZ.alike Ar14.2.1) Ar14.2.2 hin14 (Hs14.at hin14 rfl) (g := (mkF m 19 #[.val (.ref a1), .val (.int (0 : Int32)), .val (.int (4 : Int32)), .val (.ref b3), .val (.int (0 : Int32))] [(.int (0 : Int32)), (.ref a1), (.int (0 : Int32)), (.ref b3)])) rfl rfl (hb hby d17_19) _ ?_
    show Steps p.tables e below (T2.setTop (mkF m 20 #[.val (.ref a1), .val (.int (0 : Int32)), .val (.int (4 : Int32)), .val (.ref b3), .val (.int (0 : Int32))] [(.int c0), (.int (0 : Int32)), (.ref b3)])) _
    exact kt
  have f16 : Old Z n0 T2.heap := (O0.keep K2 all0)
  obtain ⟨_, _, ⟨T17, L17, k17, n17⟩, -, X17, ⟨Lc17, hQ17, l17, y17, z17⟩, st17⟩ := Jvm.LawKit.callS X2 hx (y := (⟨"java/lang/StringUTF16", "putChar", "([BII)V"⟩ : MethodName)) hown (mvT hZ (hw _ (own_w 99 rfl))) (mvT hZ (hw _ (own_w 100 rfl))) (mvT hZ (hw _ (own_w 44 rfl))) (mvT hZ (hw _ (own_w 101 rfl))) (by decide) (backOf (W := 0) (rmputc_0_8 l Z a0 hw [] b3 c0 kb4 (.int (0 : Int32)) (.int (0 : Int32)) (.int (0 : Int32)) (.int (0 : Int32)) (.int (0 : Int32)) (.int (0 : Int32)) (.int (0 : Int32)) (.int (0 : Int32)) T2.heap n0 zs10 f16 SA SH SL ge8 g6) hZ (hw _ (own_w 101 rfl)) (hw _ (own_w 44 rfl)) (by decide) (by decide)) (g := (mkF m 20 #[.val (.ref a1), .val (.int (0 : Int32)), .val (.int (4 : Int32)), .val (.ref b3), .val (.int (0 : Int32))] [(.int c0), (.int (0 : Int32)), (.ref b3)])) rfl (by rw [hml]; rfl) (argsL := [(.ref b3), (.int (0 : Int32)), (.int c0)]) (rest := []) (lenOf pd_2 rfl) rfl (by show 2 * 0 + _ ≤ _; exact Nat.le_of_eq rfl) (hb hby d17_20) (fun _ _ => ⟨rfl, rfl, (by decide : 1 + 0 ≤ _), (by decide : 8 + 0 ≤ _)⟩)
  dsimp only [Pt.U, Pt.locs, Pt.cells, Pt.slots] at X17 l17 y17 z17 st17 hQ17
  subst l17 y17 z17
  obtain ⟨rfl, Nq17, K17, g18⟩ := hQ17
  have N17 := Fr.app N2 Nq17
  have zs19 : n0 ≤ T17.heap.size := Nat.le_trans zs10 K17.1
  have kc20 : Keep h0 T17.heap [] := kc11.trans K17 (allS (Or.inr sz9) all0)
  have pre21 : own_Go p e below S0 (T17.setTop (mkF m 19 #[.val (.ref a1), .val (.int (1 : Int32)), .val (.int (4 : Int32)), .val (.ref b3), .val (.int (1 : Int32))] [(.int (1 : Int32)), (.ref a1), (.int (1 : Int32)), (.ref b3)])) := by
    intro t kt
    refine pre15 t ?_
    refine st17 _ ?_
    show Steps p.tables e below (T17.setTop (mkF m 23 #[.val (.ref a1), .val (.int (0 : Int32)), .val (.int (4 : Int32)), .val (.ref b3), .val (.int (0 : Int32))] [])) _
    refine XS.iinc X17.here hx rfl (hb hby d17_23) rfl (l' := #[.val (.ref a1), .val (.int (1 : Int32)), .val (.int (4 : Int32)), .val (.ref b3), .val (.int (0 : Int32))]) rfl ?_
    show Steps p.tables e below (T17.setTop (mkF m 26 #[.val (.ref a1), .val (.int (1 : Int32)), .val (.int (4 : Int32)), .val (.ref b3), .val (.int (0 : Int32))] [])) _
    refine XS.iinc X17.here hx rfl (hb hby d17_26) rfl (l' := #[.val (.ref a1), .val (.int (1 : Int32)), .val (.int (4 : Int32)), .val (.ref b3), .val (.int (1 : Int32))]) rfl ?_
    show Steps p.tables e below (T17.setTop (mkF m 29 #[.val (.ref a1), .val (.int (1 : Int32)), .val (.int (4 : Int32)), .val (.ref b3), .val (.int (1 : Int32))] [])) _
    refine XS.goto X17.here hx rfl (pc0 := 29) (pc' := 8) rfl (hb hby d17_29) (by decide) (by decide) ?_
    show Steps p.tables e below (T17.setTop (mkF m 8 #[.val (.ref a1), .val (.int (1 : Int32)), .val (.int (4 : Int32)), .val (.ref b3), .val (.int (1 : Int32))] [])) _
    refine XS.iload X17.here hx rfl (hb hby d17_8) rfl ?_
    show Steps p.tables e below (T17.setTop (mkF m 10 #[.val (.ref a1), .val (.int (1 : Int32)), .val (.int (4 : Int32)), .val (.ref b3), .val (.int (1 : Int32))] [(.int (1 : Int32))])) _
    refine XS.iloadN X17.here hx rfl (hb hby d17_10) rfl ?_
    show Steps p.tables e below (T17.setTop (mkF m 11 #[.val (.ref a1), .val (.int (1 : Int32)), .val (.int (4 : Int32)), .val (.ref b3), .val (.int (1 : Int32))] [(.int (4 : Int32)), (.int (1 : Int32))])) _
    refine XS.icmpNo X17.here hx rfl (hb hby d17_11) rfl (tlt (by decide : (1 : Int32) < (4 : Int32))).2.1 ?_
    show Steps p.tables e below (T17.setTop (mkF m 14 #[.val (.ref a1), .val (.int (1 : Int32)), .val (.int (4 : Int32)), .val (.ref b3), .val (.int (1 : Int32))] [])) _
    refine XS.aloadN X17.here hx rfl (hb hby d17_14) rfl rfl ?_
    show Steps p.tables e below (T17.setTop (mkF m 15 #[.val (.ref a1), .val (.int (1 : Int32)), .val (.int (4 : Int32)), .val (.ref b3), .val (.int (1 : Int32))] [(.ref b3)])) _
    refine XS.iload X17.here hx rfl (hb hby d17_15) rfl ?_
    show Steps p.tables e below (T17.setTop (mkF m 17 #[.val (.ref a1), .val (.int (1 : Int32)), .val (.int (4 : Int32)), .val (.ref b3), .val (.int (1 : Int32))] [(.int (1 : Int32)), (.ref b3)])) _
    refine XS.aloadN X17.here hx rfl (hb hby d17_17) rfl rfl ?_
    show Steps p.tables e below (T17.setTop (mkF m 18 #[.val (.ref a1), .val (.int (1 : Int32)), .val (.int (4 : Int32)), .val (.ref b3), .val (.int (1 : Int32))] [(.ref a1), (.int (1 : Int32)), (.ref b3)])) _
    refine XS.iloadN X17.here hx rfl (hb hby d17_18) rfl ?_
    show Steps p.tables e below (T17.setTop (mkF m 19 #[.val (.ref a1), .val (.int (1 : Int32)), .val (.int (4 : Int32)), .val (.ref b3), .val (.int (1 : Int32))] [(.int (1 : Int32)), (.ref a1), (.int (1 : Int32)), (.ref b3)])) _
    exact kt
  have f22 : Arv Z T17.heap a1 kc .char (4 : Int32) [(.int c0), (.int c1), (.int c2), (.int c3)] (.int (0 : Int32)) := (f13.keep K17 (ninS ne7 nin0))
  obtain ⟨cl23, Ar23, -, Sz23, -, Hs23, -⟩ := id f22
  have hin23 : ¬ ((1 : Int32) < 0 ∨ cl23.slots.size ≤ ((1 : Int32)).toNatClampNeg) := inb_of Sz23 ⟨by decide, by decide⟩
  have pre24 : own_Go p e below S0 (T17.setTop (mkF m 20 #[.val (.ref a1), .val (.int (1 : Int32)), .val (.int (4 : Int32)), .val (.ref b3), .val (.int (1 : Int32))] [(.int c1), (.int (1 : Int32)), (.ref b3)])) := by
    intro t kt
    refine pre21 t ?_
    refine X17.caload hx (j := (1 : Int32)) (v := (.int c1)) Ar23.1 (State.isArrayOf_alike hZ.alike Ar23.2.1) Ar23.2.2 hin23 (Hs23.at hin23 rfl) (g := (mkF m 19 #[.val (.ref a1), .val (.int (1 : Int32)), .val (.int (4 : Int32)), .val (.ref b3), .val (.int (1 : Int32))] [(.int (1 : Int32)), (.ref a1), (.int (1 : Int32)), (.ref b3)])) rfl rfl (hb hby d17_19) _ ?_
    show Steps p.tables e below (T17.setTop (mkF m 20 #[.val (.ref a1), .val (.int (1 : Int32)), .val (.int (4 : Int32)), .val (.ref b3), .val (.int (1 : Int32))] [(.int c1), (.int (1 : Int32)), (.ref b3)])) _
    exact kt
  have f25 : Old Z n0 T17.heap := (f16.keep K17 (allS ge8 all0))
  obtain ⟨_, _, ⟨T26, L26, k26, n26⟩, -, X26, ⟨Lc26, hQ26, l26, y26, z26⟩, st26⟩ := Jvm.LawKit.callS X17 hx (y := (⟨"java/lang/StringUTF16", "putChar", "([BII)V"⟩ : MethodName)) hown (mvT hZ (hw _ (own_w 99 rfl))) (mvT hZ (hw _ (own_w 100 rfl))) (mvT hZ (hw _ (own_w 44 rfl))) (mvT hZ (hw _ (own_w 101 rfl))) (by decide) (backOf (W := 0) (rmputc_1_8 l Z a0 hw [] b3 c1 kb4 (.int (nar .byte ((c0 >>> ((0 : Int32) &&& 31)).toInt8.toInt32))) (.int (nar .byte ((c0 >>> ((8 : Int32) &&& 31)).toInt8.toInt32))) (.int (0 : Int32)) (.int (0 : Int32)) (.int (0 : Int32)) (.int (0 : Int32)) (.int (0 : Int32)) (.int (0 : Int32)) T17.heap n0 zs19 f25 SA SH SL ge8 g18) hZ (hw _ (own_w 101 rfl)) (hw _ (own_w 44 rfl)) (by decide) (by decide)) (g := (mkF m 20 #[.val (.ref a1), .val (.int (1 : Int32)), .val (.int (4 : Int32)), .val (.ref b3), .val (.int (1 : Int32))] [(.int c1), (.int (1 : Int32)), (.ref b3)])) rfl (by rw [hml]; rfl) (argsL := [(.ref b3), (.int (1 : Int32)), (.int c1)]) (rest := []) (lenOf pd_2 rfl) rfl (by show 2 * 0 + _ ≤ _; exact Nat.le_of_eq rfl) (hb hby d17_20) (fun _ _ => ⟨rfl, rfl, (by decide : 1 + 0 ≤ _), (by decide : 8 + 0 ≤ _)⟩)
  dsimp only [Pt.U, Pt.locs, Pt.cells, Pt.slots] at X26 l26 y26 z26 st26 hQ26
  subst l26 y26 z26
  obtain ⟨rfl, Nq26, K26, g27⟩ := hQ26
  have N26 := Fr.app N17 Nq26
  have zs28 : n0 ≤ T26.heap.size := Nat.le_trans zs19 K26.1
  have kc29 : Keep h0 T26.heap [] := kc20.trans K26 (allS (Or.inr sz9) all0)
  have pre30 : own_Go p e below S0 (T26.setTop (mkF m 19 #[.val (.ref a1), .val (.int (2 : Int32)), .val (.int (4 : Int32)), .val (.ref b3), .val (.int (2 : Int32))] [(.int (2 : Int32)), (.ref a1), (.int (2 : Int32)), (.ref b3)])) := by
    intro t kt
    refine pre24 t ?_
    refine st26 _ ?_
    show Steps p.tables e below (T26.setTop (mkF m 23 #[.val (.ref a1), .val (.int (1 : Int32)), .val (.int (4 : Int32)), .val (.ref b3), .val (.int (1 : Int32))] [])) _
    refine XS.iinc X26.here hx rfl (hb hby d17_23) rfl (l' := #[.val (.ref a1), .val (.int (2 : Int32)), .val (.int (4 : Int32)), .val (.ref b3), .val (.int (1 : Int32))]) rfl ?_
    show Steps p.tables e below (T26.setTop (mkF m 26 #[.val (.ref a1), .val (.int (2 : Int32)), .val (.int (4 : Int32)), .val (.ref b3), .val (.int (1 : Int32))] [])) _
    refine XS.iinc X26.here hx rfl (hb hby d17_26) rfl (l' := #[.val (.ref a1), .val (.int (2 : Int32)), .val (.int (4 : Int32)), .val (.ref b3), .val (.int (2 : Int32))]) rfl ?_
    show Steps p.tables e below (T26.setTop (mkF m 29 #[.val (.ref a1), .val (.int (2 : Int32)), .val (.int (4 : Int32)), .val (.ref b3), .val (.int (2 : Int32))] [])) _
    refine XS.goto X26.here hx rfl (pc0 := 29) (pc' := 8) rfl (hb hby d17_29) (by decide) (by decide) ?_
    show Steps p.tables e below (T26.setTop (mkF m 8 #[.val (.ref a1), .val (.int (2 : Int32)), .val (.int (4 : Int32)), .val (.ref b3), .val (.int (2 : Int32))] [])) _
    refine XS.iload X26.here hx rfl (hb hby d17_8) rfl ?_
    show Steps p.tables e below (T26.setTop (mkF m 10 #[.val (.ref a1), .val (.int (2 : Int32)), .val (.int (4 : Int32)), .val (.ref b3), .val (.int (2 : Int32))] [(.int (2 : Int32))])) _
    refine XS.iloadN X26.here hx rfl (hb hby d17_10) rfl ?_
    show Steps p.tables e below (T26.setTop (mkF m 11 #[.val (.ref a1), .val (.int (2 : Int32)), .val (.int (4 : Int32)), .val (.ref b3), .val (.int (2 : Int32))] [(.int (4 : Int32)), (.int (2 : Int32))])) _
    refine XS.icmpNo X26.here hx rfl (hb hby d17_11) rfl (tlt (by decide : (2 : Int32) < (4 : Int32))).2.1 ?_
    show Steps p.tables e below (T26.setTop (mkF m 14 #[.val (.ref a1), .val (.int (2 : Int32)), .val (.int (4 : Int32)), .val (.ref b3), .val (.int (2 : Int32))] [])) _
    refine XS.aloadN X26.here hx rfl (hb hby d17_14) rfl rfl ?_
    show Steps p.tables e below (T26.setTop (mkF m 15 #[.val (.ref a1), .val (.int (2 : Int32)), .val (.int (4 : Int32)), .val (.ref b3), .val (.int (2 : Int32))] [(.ref b3)])) _
    refine XS.iload X26.here hx rfl (hb hby d17_15) rfl ?_
    show Steps p.tables e below (T26.setTop (mkF m 17 #[.val (.ref a1), .val (.int (2 : Int32)), .val (.int (4 : Int32)), .val (.ref b3), .val (.int (2 : Int32))] [(.int (2 : Int32)), (.ref b3)])) _
    refine XS.aloadN X26.here hx rfl (hb hby d17_17) rfl rfl ?_
    show Steps p.tables e below (T26.setTop (mkF m 18 #[.val (.ref a1), .val (.int (2 : Int32)), .val (.int (4 : Int32)), .val (.ref b3), .val (.int (2 : Int32))] [(.ref a1), (.int (2 : Int32)), (.ref b3)])) _
    refine XS.iloadN X26.here hx rfl (hb hby d17_18) rfl ?_
    show Steps p.tables e below (T26.setTop (mkF m 19 #[.val (.ref a1), .val (.int (2 : Int32)), .val (.int (4 : Int32)), .val (.ref b3), .val (.int (2 : Int32))] [(.int (2 : Int32)), (.ref a1), (.int (2 : Int32)), (.ref b3)])) _
    exact kt
  have f31 : Arv Z T26.heap a1 kc .char (4 : Int32) [(.int c0), (.int c1), (.int c2), (.int c3)] (.int (0 : Int32)) := (f22.keep K26 (ninS ne7 nin0))
  obtain ⟨cl32, Ar32, -, Sz32, -, Hs32, -⟩ := id f31
  have hin32 : ¬ ((2 : Int32) < 0 ∨ cl32.slots.size ≤ ((2 : Int32)).toNatClampNeg) := inb_of Sz32 ⟨by decide, by decide⟩
  have pre33 : own_Go p e below S0 (T26.setTop (mkF m 20 #[.val (.ref a1), .val (.int (2 : Int32)), .val (.int (4 : Int32)), .val (.ref b3), .val (.int (2 : Int32))] [(.int c2), (.int (2 : Int32)), (.ref b3)])) := by
    intro t kt
    refine pre30 t ?_
    refine X26.caload hx (j := (2 : Int32)) (v := (.int c2)) Ar32.1 (State.isArrayOf_alike hZ.alike Ar32.2.1) Ar32.2.2 hin32 (Hs32.at hin32 rfl) (g := (mkF m 19 #[.val (.ref a1), .val (.int (2 : Int32)), .val (.int (4 : Int32)), .val (.ref b3), .val (.int (2 : Int32))] [(.int (2 : Int32)), (.ref a1), (.int (2 : Int32)), (.ref b3)])) rfl rfl (hb hby d17_19) _ ?_
    show Steps p.tables e below (T26.setTop (mkF m 20 #[.val (.ref a1), .val (.int (2 : Int32)), .val (.int (4 : Int32)), .val (.ref b3), .val (.int (2 : Int32))] [(.int c2), (.int (2 : Int32)), (.ref b3)])) _
    exact kt
  have f34 : Old Z n0 T26.heap := (f25.keep K26 (allS ge8 all0))
  obtain ⟨_, _, ⟨T35, L35, k35, n35⟩, -, X35, ⟨Lc35, hQ35, l35, y35, z35⟩, st35⟩ := Jvm.LawKit.callS X26 hx (y := (⟨"java/lang/StringUTF16", "putChar", "([BII)V"⟩ : MethodName)) hown (mvT hZ (hw _ (own_w 99 rfl))) (mvT hZ (hw _ (own_w 100 rfl))) (mvT hZ (hw _ (own_w 44 rfl))) (mvT hZ (hw _ (own_w 101 rfl))) (by decide) (backOf (W := 0) (rmputc_2_8 l Z a0 hw [] b3 c2 kb4 (.int (nar .byte ((c0 >>> ((0 : Int32) &&& 31)).toInt8.toInt32))) (.int (nar .byte ((c0 >>> ((8 : Int32) &&& 31)).toInt8.toInt32))) (.int (nar .byte ((c1 >>> ((0 : Int32) &&& 31)).toInt8.toInt32))) (.int (nar .byte ((c1 >>> ((8 : Int32) &&& 31)).toInt8.toInt32))) (.int (0 : Int32)) (.int (0 : Int32)) (.int (0 : Int32)) (.int (0 : Int32)) T26.heap n0 zs28 f34 SA SH SL ge8 g27) hZ (hw _ (own_w 101 rfl)) (hw _ (own_w 44 rfl)) (by decide) (by decide)) (g := (mkF m 20 #[.val (.ref a1), .val (.int (2 : Int32)), .val (.int (4 : Int32)), .val (.ref b3), .val (.int (2 : Int32))] [(.int c2), (.int (2 : Int32)), (.ref b3)])) rfl (by rw [hml]; rfl) (argsL := [(.ref b3), (.int (2 : Int32)), (.int c2)]) (rest := []) (lenOf pd_2 rfl) rfl (by show 2 * 0 + _ ≤ _; exact Nat.le_of_eq rfl) (hb hby d17_20) (fun _ _ => ⟨rfl, rfl, (by decide : 1 + 0 ≤ _), (by decide : 8 + 0 ≤ _)⟩)
  dsimp only [Pt.U, Pt.locs, Pt.cells, Pt.slots] at X35 l35 y35 z35 st35 hQ35
  subst l35 y35 z35
  obtain ⟨rfl, Nq35, K35, g36⟩ := hQ35
  have N35 := Fr.app N26 Nq35
  have zs37 : n0 ≤ T35.heap.size := Nat.le_trans zs28 K35.1
  have kc38 : Keep h0 T35.heap [] := kc29.trans K35 (allS (Or.inr sz9) all0)
  have pre39 : own_Go p e below S0 (T35.setTop (mkF m 19 #[.val (.ref a1), .val (.int (3 : Int32)), .val (.int (4 : Int32)), .val (.ref b3), .val (.int (3 : Int32))] [(.int (3 : Int32)), (.ref a1), (.int (3 : Int32)), (.ref b3)])) := by
    intro t kt
    refine pre33 t ?_
    refine st35 _ ?_
    show Steps p.tables e below (T35.setTop (mkF m 23 #[.val (.ref a1), .val (.int (2 : Int32)), .val (.int (4 : Int32)), .val (.ref b3), .val (.int (2 : Int32))] [])) _
    refine XS.iinc X35.here hx rfl (hb hby d17_23) rfl (l' := #[.val (.ref a1), .val (.int (3 : Int32)), .val (.int (4 : Int32)), .val (.ref b3), .val (.int (2 : Int32))]) rfl ?_
    show Steps p.tables e below (T35.setTop (mkF m 26 #[.val (.ref a1), .val (.int (3 : Int32)), .val (.int (4 : Int32)), .val (.ref b3), .val (.int (2 : Int32))] [])) _
    refine XS.iinc X35.here hx rfl (hb hby d17_26) rfl (l' := #[.val (.ref a1), .val (.int (3 : Int32)), .val (.int (4 : Int32)), .val (.ref b3), .val (.int (3 : Int32))]) rfl ?_
    show Steps p.tables e below (T35.setTop (mkF m 29 #[.val (.ref a1), .val (.int (3 : Int32)), .val (.int (4 : Int32)), .val (.ref b3), .val (.int (3 : Int32))] [])) _
    refine XS.goto X35.here hx rfl (pc0 := 29) (pc' := 8) rfl (hb hby d17_29) (by decide) (by decide) ?_
    show Steps p.tables e below (T35.setTop (mkF m 8 #[.val (.ref a1), .val (.int (3 : Int32)), .val (.int (4 : Int32)), .val (.ref b3), .val (.int (3 : Int32))] [])) _
    refine XS.iload X35.here hx rfl (hb hby d17_8) rfl ?_
    show Steps p.tables e below (T35.setTop (mkF m 10 #[.val (.ref a1), .val (.int (3 : Int32)), .val (.int (4 : Int32)), .val (.ref b3), .val (.int (3 : Int32))] [(.int (3 : Int32))])) _
    refine XS.iloadN X35.here hx rfl (hb hby d17_10) rfl ?_
    show Steps p.tables e below (T35.setTop (mkF m 11 #[.val (.ref a1), .val (.int (3 : Int32)), .val (.int (4 : Int32)), .val (.ref b3), .val (.int (3 : Int32))] [(.int (4 : Int32)), (.int (3 : Int32))])) _
    refine XS.icmpNo X35.here hx rfl (hb hby d17_11) rfl (tlt (by decide : (3 : Int32) < (4 : Int32))).2.1 ?_
    show Steps p.tables e below (T35.setTop (mkF m 14 #[.val (.ref a1), .val (.int (3 : Int32)), .val (.int (4 : Int32)), .val (.ref b3), .val (.int (3 : Int32))] [])) _
    refine XS.aloadN X35.here hx rfl (hb hby d17_14) rfl rfl ?_
    show Steps p.tables e below (T35.setTop (mkF m 15 #[.val (.ref a1), .val (.int (3 : Int32)), .val (.int (4 : Int32)), .val (.ref b3), .val (.int (3 : Int32))] [(.ref b3)])) _
    refine XS.iload X35.here hx rfl (hb hby d17_15) rfl ?_
    show Steps p.tables e below (T35.setTop (mkF m 17 #[.val (.ref a1), .val (.int (3 : Int32)), .val (.int (4 : Int32)), .val (.ref b3), .val (.int (3 : Int32))] [(.int (3 : Int32)), (.ref b3)])) _
    refine XS.aloadN X35.here hx rfl (hb hby d17_17) rfl rfl ?_
    show Steps p.tables e below (T35.setTop (mkF m 18 #[.val (.ref a1), .val (.int (3 : Int32)), .val (.int (4 : Int32)), .val (.ref b3), .val (.int (3 : Int32))] [(.ref a1), (.int (3 : Int32)), (.ref b3)])) _
    refine XS.iloadN X35.here hx rfl (hb hby d17_18) rfl ?_
    show Steps p.tables e below (T35.setTop (mkF m 19 #[.val (.ref a1), .val (.int (3 : Int32)), .val (.int (4 : Int32)), .val (.ref b3), .val (.int (3 : Int32))] [(.int (3 : Int32)), (.ref a1), (.int (3 : Int32)), (.ref b3)])) _
    exact kt
  have f40 : Arv Z T35.heap a1 kc .char (4 : Int32) [(.int c0), (.int c1), (.int c2), (.int c3)] (.int (0 : Int32)) := (f31.keep K35 (ninS ne7 nin0))
  obtain ⟨cl41, Ar41, -, Sz41, -, Hs41, -⟩ := id f40
  have hin41 : ¬ ((3 : Int32) < 0 ∨ cl41.slots.size ≤ ((3 : Int32)).toNatClampNeg) := inb_of Sz41 ⟨by decide, by decide⟩
  have pre42 : own_Go p e below S0 (T35.setTop (mkF m 20 #[.val (.ref a1), .val (.int (3 : Int32)), .val (.int (4 : Int32)), .val (.ref b3), .val (.int (3 : Int32))] [(.int c3), (.int (3 : Int32)), (.ref b3)])) := by
    intro t kt
    refine pre39 t ?_
    refine X35.caload hx (j := (3 : Int32)) (v := (.int c3)) Ar41.1 (State.isArrayOf_alike hZ.alike Ar41.2.1) Ar41.2.2 hin41 (Hs41.at hin41 rfl) (g := (mkF m 19 #[.val (.ref a1), .val (.int (3 : Int32)), .val (.int (4 : Int32)), .val (.ref b3), .val (.int (3 : Int32))] [(.int (3 : Int32)), (.ref a1), (.int (3 : Int32)), (.ref b3)])) rfl rfl (hb hby d17_19) _ ?_
    show Steps p.tables e below (T35.setTop (mkF m 20 #[.val (.ref a1), .val (.int (3 : Int32)), .val (.int (4 : Int32)), .val (.ref b3), .val (.int (3 : Int32))] [(.int c3), (.int (3 : Int32)), (.ref b3)])) _
    exact kt
  have f43 : Old Z n0 T35.heap := (f34.keep K35 (allS ge8 all0))
  obtain ⟨_, _, ⟨T44, L44, k44, n44⟩, -, X44, ⟨Lc44, hQ44, l44, y44, z44⟩, st44⟩ := Jvm.LawKit.callS X35 hx (y := (⟨"java/lang/StringUTF16", "putChar", "([BII)V"⟩ : MethodName)) hown (mvT hZ (hw _ (own_w 99 rfl))) (mvT hZ (hw _ (own_w 100 rfl))) (mvT hZ (hw _ (own_w 44 rfl))) (mvT hZ (hw _ (own_w 101 rfl))) (by decide) (backOf (W := 0) (rmputc_3_8 l Z a0 hw [] b3 c3 kb4 (.int (nar .byte ((c0 >>> ((0 : Int32) &&& 31)).toInt8.toInt32))) (.int (nar .byte ((c0 >>> ((8 : Int32) &&& 31)).toInt8.toInt32))) (.int (nar .byte ((c1 >>> ((0 : Int32) &&& 31)).toInt8.toInt32))) (.int (nar .byte ((c1 >>> ((8 : Int32) &&& 31)).toInt8.toInt32))) (.int (nar .byte ((c2 >>> ((0 : Int32) &&& 31)).toInt8.toInt32))) (.int (nar .byte ((c2 >>> ((8 : Int32) &&& 31)).toInt8.toInt32))) (.int (0 : Int32)) (.int (0 : Int32)) T35.heap n0 zs37 f43 SA SH SL ge8 g36) hZ (hw _ (own_w 101 rfl)) (hw _ (own_w 44 rfl)) (by decide) (by decide)) (g := (mkF m 20 #[.val (.ref a1), .val (.int (3 : Int32)), .val (.int (4 : Int32)), .val (.ref b3), .val (.int (3 : Int32))] [(.int c3), (.int (3 : Int32)), (.ref b3)])) rfl (by rw [hml]; rfl) (argsL := [(.ref b3), (.int (3 : Int32)), (.int c3)]) (rest := []) (lenOf pd_2 rfl) rfl (by show 2 * 0 + _ ≤ _; exact Nat.le_of_eq rfl) (hb hby d17_20) (fun _ _ => ⟨rfl, rfl, (by decide : 1 + 0 ≤ _), (by decide : 8 + 0 ≤ _)⟩)
  dsimp only [Pt.U, Pt.locs, Pt.cells, Pt.slots] at X44 l44 y44 z44 st44 hQ44
  subst l44 y44 z44
  obtain ⟨rfl, Nq44, K44, g45⟩ := hQ44
  have N44 := Fr.app N35 Nq44
  have zs46 : n0 ≤ T44.heap.size := Nat.le_trans zs37 K44.1
  have kc47 : Keep h0 T44.heap [] := kc38.trans K44 (allS (Or.inr sz9) all0)
  have pre48 : own_Go p e below S0 (T44.setTop (mkF m 33 #[.val (.ref a1), .val (.int (4 : Int32)), .val (.int (4 : Int32)), .val (.ref b3), .val (.int (4 : Int32))] [(.ref b3)])) := by
    intro t kt
    refine pre42 t ?_
    refine st44 _ ?_
    show Steps p.tables e below (T44.setTop (mkF m 23 #[.val (.ref a1), .val (.int (3 : Int32)), .val (.int (4 : Int32)), .val (.ref b3), .val (.int (3 : Int32))] [])) _
    refine XS.iinc X44.here hx rfl (hb hby d17_23) rfl (l' := #[.val (.ref a1), .val (.int (4 : Int32)), .val (.int (4 : Int32)), .val (.ref b3), .val (.int (3 : Int32))]) rfl ?_
    show Steps p.tables e below (T44.setTop (mkF m 26 #[.val (.ref a1), .val (.int (4 : Int32)), .val (.int (4 : Int32)), .val (.ref b3), .val (.int (3 : Int32))] [])) _
    refine XS.iinc X44.here hx rfl (hb hby d17_26) rfl (l' := #[.val (.ref a1), .val (.int (4 : Int32)), .val (.int (4 : Int32)), .val (.ref b3), .val (.int (4 : Int32))]) rfl ?_
    show Steps p.tables e below (T44.setTop (mkF m 29 #[.val (.ref a1), .val (.int (4 : Int32)), .val (.int (4 : Int32)), .val (.ref b3), .val (.int (4 : Int32))] [])) _
    refine XS.goto X44.here hx rfl (pc0 := 29) (pc' := 8) rfl (hb hby d17_29) (by decide) (by decide) ?_
    show Steps p.tables e below (T44.setTop (mkF m 8 #[.val (.ref a1), .val (.int (4 : Int32)), .val (.int (4 : Int32)), .val (.ref b3), .val (.int (4 : Int32))] [])) _
    refine XS.iload X44.here hx rfl (hb hby d17_8) rfl ?_
    show Steps p.tables e below (T44.setTop (mkF m 10 #[.val (.ref a1), .val (.int (4 : Int32)), .val (.int (4 : Int32)), .val (.ref b3), .val (.int (4 : Int32))] [(.int (4 : Int32))])) _
    refine XS.iloadN X44.here hx rfl (hb hby d17_10) rfl ?_
    show Steps p.tables e below (T44.setTop (mkF m 11 #[.val (.ref a1), .val (.int (4 : Int32)), .val (.int (4 : Int32)), .val (.ref b3), .val (.int (4 : Int32))] [(.int (4 : Int32)), (.int (4 : Int32))])) _
    refine XS.icmpYes X44.here hx rfl (pc0 := 11) (pc' := 32) rfl (hb hby d17_11) rfl (flt (by decide : ¬ ((4 : Int32) < (4 : Int32)))).2.1 (by decide) (by decide) ?_
    show Steps p.tables e below (T44.setTop (mkF m 32 #[.val (.ref a1), .val (.int (4 : Int32)), .val (.int (4 : Int32)), .val (.ref b3), .val (.int (4 : Int32))] [])) _
    refine XS.aloadN X44.here hx rfl (hb hby d17_32) rfl rfl ?_
    show Steps p.tables e below (T44.setTop (mkF m 33 #[.val (.ref a1), .val (.int (4 : Int32)), .val (.int (4 : Int32)), .val (.ref b3), .val (.int (4 : Int32))] [(.ref b3)])) _
    exact kt
  obtain ⟨fs, hr, hrun, hended, hW, hsame⟩ := X44.leave (v := some (.ref b3)) (fun h => by rw [Bd.returns] at h; cases h)
  refine ⟨_, _, fin _ (pre48 _ ?_), hrun, hended, _, _, rfl, ?_, ⟨_, rfl⟩, hW, hsame.mono (by decide) (by decide)⟩
  · jvm_step X44.here [X44.here.top, hx, (hb hby d17_33), X44.method', Bd.returns, Value.isRef, FieldType.isReference]
    first | (intro acts; rw [hr _ acts rfl rfl rfl]) | rw [hr _ _ rfl rfl rfl]
    exact Steps.refl _
  · show QtoB_4 Z a1 kc c0 c1 c2 c3 h0 n0 _ T44.heap _
    exact ⟨b3, kb4, rfl, N44, kc47, sz9, g45⟩

theorem d21_0 : decode jdk_52_method_5_code 0 = .ok (.getstatic 44, 3) := by decide +kernel
theorem d21_3 : decode jdk_52_method_5_code 3 = .ok (.ifCond .ne 25, 3) := by decide +kernel
theorem d21_28 : decode jdk_52_method_5_code 28 = .ok (.iload_n 1, 1) := by decide +kernel
theorem d21_29 : decode jdk_52_method_5_code 29 = .ok (.iconst 1, 1) := by decide +kernel
theorem d21_30 : decode jdk_52_method_5_code 30 = .ok (.ishl, 1) := by decide +kernel
theorem d21_31 : decode jdk_52_method_5_code 31 = .ok (.istore_n 1, 1) := by decide +kernel
theorem d21_32 : decode jdk_52_method_5_code 32 = .ok (.aload_n 0, 1) := by decide +kernel
theorem d21_33 : decode jdk_52_method_5_code 33 = .ok (.iload_n 1, 1) := by decide +kernel
theorem d21_34 : decode jdk_52_method_5_code 34 = .ok (.iinc 1 1, 3) := by decide +kernel
theorem d21_37 : decode jdk_52_method_5_code 37 = .ok (.baload, 1) := by decide +kernel
theorem d21_38 : decode jdk_52_method_5_code 38 = .ok (.sipush 255, 3) := by decide +kernel
theorem d21_41 : decode jdk_52_method_5_code 41 = .ok (.iand, 1) := by decide +kernel
theorem d21_42 : decode jdk_52_method_5_code 42 = .ok (.getstatic 59, 3) := by decide +kernel
theorem d21_45 : decode jdk_52_method_5_code 45 = .ok (.ishl, 1) := by decide +kernel
theorem d21_46 : decode jdk_52_method_5_code 46 = .ok (.aload_n 0, 1) := by decide +kernel
theorem d21_47 : decode jdk_52_method_5_code 47 = .ok (.iload_n 1, 1) := by decide +kernel
theorem d21_48 : decode jdk_52_method_5_code 48 = .ok (.baload, 1) := by decide +kernel
theorem d21_49 : decode jdk_52_method_5_code 49 = .ok (.sipush 255, 3) := by decide +kernel
theorem d21_52 : decode jdk_52_method_5_code 52 = .ok (.iand, 1) := by decide +kernel
theorem d21_53 : decode jdk_52_method_5_code 53 = .ok (.getstatic 63, 3) := by decide +kernel
theorem d21_56 : decode jdk_52_method_5_code 56 = .ok (.ishl, 1) := by decide +kernel
theorem d21_57 : decode jdk_52_method_5_code 57 = .ok (.ior, 1) := by decide +kernel
theorem d21_58 : decode jdk_52_method_5_code 58 = .ok (.i2c, 1) := by decide +kernel
theorem d21_59 : decode jdk_52_method_5_code 59 = .ok (.ireturn, 1) := by decide +kernel
theorem pn_21 : plainName "java/lang/StringUTF16" = true := by first | (simp [plainName, overriddenIn]; done) | decide +kernel
theorem ef_getc_0_8 (m : MethodId) (x0 : Addr) : entryFrame m #[(.ref x0), (.int (0 : Int32))] 2 = mkF m 0 #[.val (.ref x0), .val (.int (0 : Int32))] [] := by first | (simp [entryFrame, mkF, argsToLocals, Value.category]; done) | rfl
def Qgetc_0_8 (Z : State) (a1 : Addr) (k1 : ClassId) (b0 : Int32) (b1 : Int32) (u2 : Value) (u3 : Value) (u4 : Value) (u5 : Value) (u6 : Value) (u7 : Value) (h0 : Heap) (n0 : Nat) (v : Option Value) (h : Heap) (L : List Loc) : Prop := v = (some (.int (own_gc b0 b1))) ∧ Fr n0 L ∧ h = h0
set_option maxRecDepth 65536 in
set_option maxHeartbeats 40000000 in
theorem rmgetc_0_8 (l : Launch) (Z : State) (a0 : Array Value) (hw : ∀ d ∈ tables_1, d.before a0 Z = true) (ws : List Jvm.Cond) (a1 : Addr) (k1 : ClassId) (b0 : Int32) (b1 : Int32) (u2 : Value) (u3 : Value) (u4 : Value) (u5 : Value) (u6 : Value) (u7 : Value) (h0 : Heap) (n0 : Nat) (Z0 : n0 ≤ h0.size) (O0 : Old Z n0 h0) (SA : Sta Z Z.heap "java/lang/StringUTF16" "$assertionsDisabled" "Z" (.int (1 : Int32))) (SH : Sta Z Z.heap "java/lang/StringUTF16" "HI_BYTE_SHIFT" "I" (.int (0 : Int32))) (SL : Sta Z Z.heap "java/lang/StringUTF16" "LO_BYTE_SHIFT" "I" (.int (8 : Int32))) (V1 : Arv Z h0 a1 k1 .byte (8 : Int32) [(.int b0), (.int b1), u2, u3, u4, u5, u6, u7] (.int (0 : Int32))) :
    MetFree l (⟨"java/lang/StringUTF16", "getChar", "([BI)C"⟩ : MethodName) (head1 (Jvm.Cond.code (⟨"java/lang/StringUTF16", "getChar", "([BI)C"⟩ : MethodName) jdk_52_method_5_code 2 (some .char) :: ws) ({ frames := 0, cells := 0, slots := 0, locals := 0 } : Room)) (fun a U => a = #[(.ref a1), (.int (0 : Int32))] ∧ Z.Warmed39 U.vm ∧ U.heap = h0) (fun _ _ _ _ _ => True) (fun _ U o U' => ∃ v L, o = .returned v ∧ Qgetc_0_8 Z a1 k1 b0 b1 u2 u3 u4 u5 u6 u7 h0 n0 v U'.heap L ∧ FrameEnd U o U' L ({ frames := 0, cells := 0, slots := 0, locals := 0 } : Room).cells ({ frames := 0, cells := 0, slots := 0, locals := 0 } : Room).slots) := by
  refine MetFree.of_bodySF (plainFor_of_name pn_21) hisR ?_
  intro p e s m args below meth c s₁ Bd hml0 hP hK
  obtain ⟨rfl, hZ, hh⟩ := hP
  have hx := Bd.exec
  have hby := Bd.bytes
  have hml : c.maxLocals = 2 := hml0
  have hown0 := findClass_of_methodNamed Bd.named
  have hown : s.vm.findClass "java/lang/StringUTF16" = some m.cls := hown0
  have hnm := (name_of_methodNamed Bd.named Bd.method).1
  have X0 : Stand p l e ({ frames := 0, cells := 0, slots := 0, locals := 0 } : Room) s m #[(.ref a1), (.int (0 : Int32))] below meth c s₁ [] 0 0 := Stand.of_body Bd
  have e0 : s₁.heap = h0 := by rw [← hh, Bd.state]; rfl
  have N0 := Fr.nil n0
  obtain ⟨S0, hS0⟩ : ∃ z, z = s₁.setTop (entryFrame m #[(.ref a1), (.int (0 : Int32))] 2) := ⟨_, rfl⟩
  have pre0 : own_Go p e below S0 (s₁.setTop (mkF m 0 #[.val (.ref a1), .val (.int (0 : Int32))] [])) := fun t k => by rw [hS0]; exact castTop (ef_getc_0_8 m a1) k
  have fin : ∀ t, Steps p.tables e below S0 t → Steps p.tables e below (s₁.setTop (entryFrame m #[(.ref a1), (.int (0 : Int32))] 2)) t := fun t k => by rw [hS0] at k; exact k
  obtain ⟨T1, X1, e1, st1⟩ := getS2 X0 hx hZ hown (host := "") (Or.inl (hw _ (own_w 102 rfl))) Via.refl e0 (SA.ext O0.2) (g := (mkF m 0 #[.val (.ref a1), .val (.int (0 : Int32))] [])) rfl (hb hby d21_0)
  have pre2 : own_Go p e below S0 (T1.setTop (mkF m 37 #[.val (.ref a1), .val (.int (1 : Int32))] [(.int (0 : Int32)), (.ref a1)])) := by
    intro t kt
    refine pre0 t ?_
    refine st1 _ ?_
    show Steps p.tables e below (T1.setTop (mkF m 3 #[.val (.ref a1), .val (.int (0 : Int32))] [(.int (1 : Int32))])) _
    refine XS.ifYes X1.here hx rfl (pc0 := 3) (pc' := 28) rfl (hb hby d21_3) rfl ((if0 _ _).trans (feq (by decide : ¬ ((1 : Int32) = (0 : Int32)))).2) (by decide) (by decide) ?_
    show Steps p.tables e below (T1.setTop (mkF m 28 #[.val (.ref a1), .val (.int (0 : Int32))] [])) _
    refine XS.iloadN X1.here hx rfl (hb hby d21_28) rfl ?_
    show Steps p.tables e below (T1.setTop (mkF m 29 #[.val (.ref a1), .val (.int (0 : Int32))] [(.int (0 : Int32))])) _
    refine XS.iconst X1.here hx rfl (hb hby d21_29) ?_
    show Steps p.tables e below (T1.setTop (mkF m 30 #[.val (.ref a1), .val (.int (0 : Int32))] [(.int (1 : Int32)), (.int (0 : Int32))])) _
    refine XS.ishl X1.here hx rfl (hb hby d21_30) rfl ?_
    show Steps p.tables e below (T1.setTop (mkF m 31 #[.val (.ref a1), .val (.int (0 : Int32))] [(.int (0 : Int32))])) _
    refine XS.istoreN X1.here hx rfl (hb hby d21_31) rfl (l' := #[.val (.ref a1), .val (.int (0 : Int32))]) rfl ?_
    show Steps p.tables e below (T1.setTop (mkF m 32 #[.val (.ref a1), .val (.int (0 : Int32))] [])) _
    refine XS.aloadN X1.here hx rfl (hb hby d21_32) rfl rfl ?_
    show Steps p.tables e below (T1.setTop (mkF m 33 #[.val (.ref a1), .val (.int (0 : Int32))] [(.ref a1)])) _
    refine XS.iloadN X1.here hx rfl (hb hby d21_33) rfl ?_
    show Steps p.tables e below (T1.setTop (mkF m 34 #[.val (.ref a1), .val (.int (0 : Int32))] [(.int (0 : Int32)), (.ref a1)])) _
    refine XS.iinc X1.here hx rfl (hb hby d21_34) rfl (l' := #[.val (.ref a1), .val (.int (1 : Int32))]) rfl ?_
    show Steps p.tables e below (T1.setTop (mkF m 37 #[.val (.ref a1), .val (.int (1 : Int32))] [(.int (0 : Int32)), (.ref a1)])) _
    exact kt
  obtain ⟨cl3, Ar3, -, Sz3, -, Hs3, -⟩ := id V1
  have hin3 : ¬ ((0 : Int32) < 0 ∨ cl3.slots.size ≤ ((0 : Int32)).toNatClampNeg) := inb_of Sz3 ⟨by decide, by decide⟩
  have pre4 : own_Go p e below S0 (T1.setTop (mkF m 42 #[.val (.ref a1), .val (.int (1 : Int32))] [(.int (b0 &&& (255 : Int32)))])) := by
    intro t kt
    refine pre2 t ?_
    refine X1.baloadBytes hx (j := (0 : Int32)) (v := (.int b0)) (by rw [e1]; exact Ar3.1) (State.isArrayOf_alike hZ.alike Ar3.2.1) Ar3.2.2 hin3 (Hs3.at hin3 rfl) (g := (mkF m 37 #[.val (.ref a1), .val (.int (1 : Int32))] [(.int (0 : Int32)), (.ref a1)])) rfl rfl (hb hby d21_37) _ ?_
    show Steps p.tables e below (T1.setTop (mkF m 38 #[.val (.ref a1), .val (.int (1 : Int32))] [(.int b0)])) _
    refine XS.sipush X1.here hx rfl (hb hby d21_38) ?_
    show Steps p.tables e below (T1.setTop (mkF m 41 #[.val (.ref a1), .val (.int (1 : Int32))] [(.int (255 : Int32)), (.int b0)])) _
    refine XS.iand X1.here hx rfl (hb hby d21_41) rfl ?_
    show Steps p.tables e below (T1.setTop (mkF m 42 #[.val (.ref a1), .val (.int (1 : Int32))] [(.int (b0 &&& (255 : Int32)))])) _
    exact kt
  obtain ⟨T5, X5, e5, st5⟩ := getS2 X1 hx hZ hown (host := "") (Or.inl (hw _ (own_w 103 rfl))) Via.refl e1 (SH.ext O0.2) (g := (mkF m 42 #[.val (.ref a1), .val (.int (1 : Int32))] [(.int (b0 &&& (255 : Int32)))])) rfl (hb hby d21_42)
  have pre6 : own_Go p e below S0 (T5.setTop (mkF m 48 #[.val (.ref a1), .val (.int (1 : Int32))] [(.int (1 : Int32)), (.ref a1), (.int ((b0 &&& (255 : Int32)) <<< ((0 : Int32) &&& 31)))])) := by
    intro t kt
    refine pre4 t ?_
    refine st5 _ ?_
    show Steps p.tables e below (T5.setTop (mkF m 45 #[.val (.ref a1), .val (.int (1 : Int32))] [(.int (0 : Int32)), (.int (b0 &&& (255 : Int32)))])) _
    refine XS.ishl X5.here hx rfl (hb hby d21_45) rfl ?_
    show Steps p.tables e below (T5.setTop (mkF m 46 #[.val (.ref a1), .val (.int (1 : Int32))] [(.int ((b0 &&& (255 : Int32)) <<< ((0 : Int32) &&& 31)))])) _
    refine XS.aloadN X5.here hx rfl (hb hby d21_46) rfl rfl ?_
    show Steps p.tables e below (T5.setTop (mkF m 47 #[.val (.ref a1), .val (.int (1 : Int32))] [(.ref a1), (.int ((b0 &&& (255 : Int32)) <<< ((0 : Int32) &&& 31)))])) _
    refine XS.iloadN X5.here hx rfl (hb hby d21_47) rfl ?_
    show Steps p.tables e below (T5.setTop (mkF m 48 #[.val (.ref a1), .val (.int (1 : Int32))] [(.int (1 : Int32)), (.ref a1), (.int ((b0 &&& (255 : Int32)) <<< ((0 : Int32) &&& 31)))])) _
    exact kt
  obtain ⟨cl7, Ar7, -, Sz7, -, Hs7, -⟩ := id V1
  have hin7 : ¬ ((1 : Int32) < 0 ∨ cl7.slots.size ≤ ((1 : Int32)).toNatClampNeg) := inb_of Sz7 ⟨by decide, by decide⟩
  have pre8 : own_Go p e below S0 (T5.setTop (mkF m 53 #[.val (.ref a1), .val (.int (1 : Int32))] [(.int (b1 &&& (255 : Int32))), (.int ((b0 &&& (255 : Int32)) <<< ((0 : Int32) &&& 31)))])) := by
    intro t kt
    refine pre6 t ?_
    refine X5.baloadBytes hx (j := (1 : Int32)) (v := (.int b1)) (by rw [e5]; exact Ar7.1) (State.isArrayOf_alike hZ.alike Ar7.2.1) Ar7.2.2 hin7 (Hs7.at hin7 rfl) (g := (mkF m 48 #[.val (.ref a1), .val (.int (1 : Int32))] [(.int (1 : Int32)), (.ref a1), (.int ((b0 &&& (255 : Int32)) <<< ((0 : Int32) &&& 31)))])) rfl rfl (hb hby d21_48) _ ?_
    show Steps p.tables e below (T5.setTop (mkF m 49 #[.val (.ref a1), .val (.int (1 : Int32))] [(.int b1), (.int ((b0 &&& (255 : Int32)) <<< ((0 : Int32) &&& 31)))])) _
    refine XS.sipush X5.here hx rfl (hb hby d21_49) ?_
    show Steps p.tables e below (T5.setTop (mkF m 52 #[.val (.ref a1), .val (.int (1 : Int32))] [(.int (255 : Int32)), (.int b1), (.int ((b0 &&& (255 : Int32)) <<< ((0 : Int32) &&& 31)))])) _
    refine XS.iand X5.here hx rfl (hb hby d21_52) rfl ?_
    show Steps p.tables e below (T5.setTop (mkF m 53 #[.val (.ref a1), .val (.int (1 : Int32))] [(.int (b1 &&& (255 : Int32))), (.int ((b0 &&& (255 : Int32)) <<< ((0 : Int32) &&& 31)))])) _
    exact kt
  obtain ⟨T9, X9, e9, st9⟩ := getS2 X5 hx hZ hown (host := "") (Or.inl (hw _ (own_w 104 rfl))) Via.refl e5 (SL.ext O0.2) (g := (mkF m 53 #[.val (.ref a1), .val (.int (1 : Int32))] [(.int (b1 &&& (255 : Int32))), (.int ((b0 &&& (255 : Int32)) <<< ((0 : Int32) &&& 31)))])) rfl (hb hby d21_53)
  have pre10 : own_Go p e below S0 (T9.setTop (mkF m 59 #[.val (.ref a1), .val (.int (1 : Int32))] [(.int ((((b0 &&& (255 : Int32)) <<< ((0 : Int32) &&& 31)) ||| ((b1 &&& (255 : Int32)) <<< ((8 : Int32) &&& 31))).toUInt32.toUInt16.toUInt32.toInt32))])) := by
    intro t kt
    refine pre8 t ?_
    refine st9 _ ?_
    show Steps p.tables e below (T9.setTop (mkF m 56 #[.val (.ref a1), .val (.int (1 : Int32))] [(.int (8 : Int32)), (.int (b1 &&& (255 : Int32))), (.int ((b0 &&& (255 : Int32)) <<< ((0 : Int32) &&& 31)))])) _
    refine XS.ishl X9.here hx rfl (hb hby d21_56) rfl ?_
    show Steps p.tables e below (T9.setTop (mkF m 57 #[.val (.ref a1), .val (.int (1 : Int32))] [(.int ((b1 &&& (255 : Int32)) <<< ((8 : Int32) &&& 31))), (.int ((b0 &&& (255 : Int32)) <<< ((0 : Int32) &&& 31)))])) _
    refine XS.ior X9.here hx rfl (hb hby d21_57) rfl ?_
    show Steps p.tables e below (T9.setTop (mkF m 58 #[.val (.ref a1), .val (.int (1 : Int32))] [(.int (((b0 &&& (255 : Int32)) <<< ((0 : Int32) &&& 31)) ||| ((b1 &&& (255 : Int32)) <<< ((8 : Int32) &&& 31))))])) _
    refine XS.i2c X9.here hx rfl (hb hby d21_58) rfl ?_
    show Steps p.tables e below (T9.setTop (mkF m 59 #[.val (.ref a1), .val (.int (1 : Int32))] [(.int ((((b0 &&& (255 : Int32)) <<< ((0 : Int32) &&& 31)) ||| ((b1 &&& (255 : Int32)) <<< ((8 : Int32) &&& 31))).toUInt32.toUInt16.toUInt32.toInt32))])) _
    exact kt
  obtain ⟨fs, hr, hrun, hended, hW, hsame⟩ := X9.leave (v := some (.int (nar .char ((((b0 &&& (255 : Int32)) <<< ((0 : Int32) &&& 31)) ||| ((b1 &&& (255 : Int32)) <<< ((8 : Int32) &&& 31))).toUInt32.toUInt16.toUInt32.toInt32)))) (fun h => by rw [Bd.returns] at h; cases h)
  refine ⟨_, _, fin _ (pre10 _ ?_), hrun, hended, _, _, rfl, ?_, ⟨_, rfl⟩, hW, hsame.mono (by decide) (by decide)⟩
  · exact retN X9 hx (t := .char) Bd.returns (by simp) (hb hby d21_59) hr
  · show Qgetc_0_8 Z a1 k1 b0 b1 u2 u3 u4 u5 u6 u7 h0 n0 _ T9.heap _
    rw [e9]
    exact ⟨rfl, N0, rfl⟩

theorem ef_getc_1_8 (m : MethodId) (x0 : Addr) : entryFrame m #[(.ref x0), (.int (1 : Int32))] 2 = mkF m 0 #[.val (.ref x0), .val (.int (1 : Int32))] [] := by first | (simp [entryFrame, mkF, argsToLocals, Value.category]; done) | rfl
def Qgetc_1_8 (Z : State) (a1 : Addr) (k1 : ClassId) (b0 : Int32) (b1 : Int32) (u0 : Value) (u1 : Value) (u4 : Value) (u5 : Value) (u6 : Value) (u7 : Value) (h0 : Heap) (n0 : Nat) (v : Option Value) (h : Heap) (L : List Loc) : Prop := v = (some (.int (own_gc b0 b1))) ∧ Fr n0 L ∧ h = h0
set_option maxRecDepth 65536 in
set_option maxHeartbeats 40000000 in
theorem rmgetc_1_8 (l : Launch) (Z : State) (a0 : Array Value) (hw : ∀ d ∈ tables_1, d.before a0 Z = true) (ws : List Jvm.Cond) (a1 : Addr) (k1 : ClassId) (b0 : Int32) (b1 : Int32) (u0 : Value) (u1 : Value) (u4 : Value) (u5 : Value) (u6 : Value) (u7 : Value) (h0 : Heap) (n0 : Nat) (Z0 : n0 ≤ h0.size) (O0 : Old Z n0 h0) (SA : Sta Z Z.heap "java/lang/StringUTF16" "$assertionsDisabled" "Z" (.int (1 : Int32))) (SH : Sta Z Z.heap "java/lang/StringUTF16" "HI_BYTE_SHIFT" "I" (.int (0 : Int32))) (SL : Sta Z Z.heap "java/lang/StringUTF16" "LO_BYTE_SHIFT" "I" (.int (8 : Int32))) (V1 : Arv Z h0 a1 k1 .byte (8 : Int32) [u0, u1, (.int b0), (.int b1), u4, u5, u6, u7] (.int (0 : Int32))) :
    MetFree l (⟨"java/lang/StringUTF16", "getChar", "([BI)C"⟩ : MethodName) (head1 (Jvm.Cond.code (⟨"java/lang/StringUTF16", "getChar", "([BI)C"⟩ : MethodName) jdk_52_method_5_code 2 (some .char) :: ws) ({ frames := 0, cells := 0, slots := 0, locals := 0 } : Room)) (fun a U => a = #[(.ref a1), (.int (1 : Int32))] ∧ Z.Warmed39 U.vm ∧ U.heap = h0) (fun _ _ _ _ _ => True) (fun _ U o U' => ∃ v L, o = .returned v ∧ Qgetc_1_8 Z a1 k1 b0 b1 u0 u1 u4 u5 u6 u7 h0 n0 v U'.heap L ∧ FrameEnd U o U' L ({ frames := 0, cells := 0, slots := 0, locals := 0 } : Room).cells ({ frames := 0, cells := 0, slots := 0, locals := 0 } : Room).slots) := by
  refine MetFree.of_bodySF (plainFor_of_name pn_21) hisR ?_
  intro p e s m args below meth c s₁ Bd hml0 hP hK
  obtain ⟨rfl, hZ, hh⟩ := hP
  have hx := Bd.exec
  have hby := Bd.bytes
  have hml : c.maxLocals = 2 := hml0
  have hown0 := findClass_of_methodNamed Bd.named
  have hown : s.vm.findClass "java/lang/StringUTF16" = some m.cls := hown0
  have hnm := (name_of_methodNamed Bd.named Bd.method).1
  have X0 : Stand p l e ({ frames := 0, cells := 0, slots := 0, locals := 0 } : Room) s m #[(.ref a1), (.int (1 : Int32))] below meth c s₁ [] 0 0 := Stand.of_body Bd
  have e0 : s₁.heap = h0 := by rw [← hh, Bd.state]; rfl
  have N0 := Fr.nil n0
  obtain ⟨S0, hS0⟩ : ∃ z, z = s₁.setTop (entryFrame m #[(.ref a1), (.int (1 : Int32))] 2) := ⟨_, rfl⟩
  have pre0 : own_Go p e below S0 (s₁.setTop (mkF m 0 #[.val (.ref a1), .val (.int (1 : Int32))] [])) := fun t k => by rw [hS0]; exact castTop (ef_getc_1_8 m a1) k
  have fin : ∀ t, Steps p.tables e below S0 t → Steps p.tables e below (s₁.setTop (entryFrame m #[(.ref a1), (.int (1 : Int32))] 2)) t := fun t k => by rw [hS0] at k; exact k
  obtain ⟨T1, X1, e1, st1⟩ := getS2 X0 hx hZ hown (host := "") (Or.inl (hw _ (own_w 102 rfl))) Via.refl e0 (SA.ext O0.2) (g := (mkF m 0 #[.val (.ref a1), .val (.int (1 : Int32))] [])) rfl (hb hby d21_0)
  have pre2 : own_Go p e below S0 (T1.setTop (mkF m 37 #[.val (.ref a1), .val (.int (3 : Int32))] [(.int (2 : Int32)), (.ref a1)])) := by
    intro t kt
    refine pre0 t ?_
    refine st1 _ ?_
    show Steps p.tables e below (T1.setTop (mkF m 3 #[.val (.ref a1), .val (.int (1 : Int32))] [(.int (1 : Int32))])) _
    refine XS.ifYes X1.here hx rfl (pc0 := 3) (pc' := 28) rfl (hb hby d21_3) rfl ((if0 _ _).trans (feq (by decide : ¬ ((1 : Int32) = (0 : Int32)))).2) (by decide) (by decide) ?_
    show Steps p.tables e below (T1.setTop (mkF m 28 #[.val (.ref a1), .val (.int (1 : Int32))] [])) _
    refine XS.iloadN X1.here hx rfl (hb hby d21_28) rfl ?_
    show Steps p.tables e below (T1.setTop (mkF m 29 #[.val (.ref a1), .val (.int (1 : Int32))] [(.int (1 : Int32))])) _
    refine XS.iconst X1.here hx rfl (hb hby d21_29) ?_
    show Steps p.tables e below (T1.setTop (mkF m 30 #[.val (.ref a1), .val (.int (1 : Int32))] [(.int (1 : Int32)), (.int (1 : Int32))])) _
    refine XS.ishl X1.here hx rfl (hb hby d21_30) rfl ?_
    show Steps p.tables e below (T1.setTop (mkF m 31 #[.val (.ref a1), .val (.int (1 : Int32))] [(.int (2 : Int32))])) _
    refine XS.istoreN X1.here hx rfl (hb hby d21_31) rfl (l' := #[.val (.ref a1), .val (.int (2 : Int32))]) rfl ?_
    show Steps p.tables e below (T1.setTop (mkF m 32 #[.val (.ref a1), .val (.int (2 : Int32))] [])) _
    refine XS.aloadN X1.here hx rfl (hb hby d21_32) rfl rfl ?_
    show Steps p.tables e below (T1.setTop (mkF m 33 #[.val (.ref a1), .val (.int (2 : Int32))] [(.ref a1)])) _
    refine XS.iloadN X1.here hx rfl (hb hby d21_33) rfl ?_
    show Steps p.tables e below (T1.setTop (mkF m 34 #[.val (.ref a1), .val (.int (2 : Int32))] [(.int (2 : Int32)), (.ref a1)])) _
    refine XS.iinc X1.here hx rfl (hb hby d21_34) rfl (l' := #[.val (.ref a1), .val (.int (3 : Int32))]) rfl ?_
    show Steps p.tables e below (T1.setTop (mkF m 37 #[.val (.ref a1), .val (.int (3 : Int32))] [(.int (2 : Int32)), (.ref a1)])) _
    exact kt
  obtain ⟨cl3, Ar3, -, Sz3, -, Hs3, -⟩ := id V1
  have hin3 : ¬ ((2 : Int32) < 0 ∨ cl3.slots.size ≤ ((2 : Int32)).toNatClampNeg) := inb_of Sz3 ⟨by decide, by decide⟩
  have pre4 : own_Go p e below S0 (T1.setTop (mkF m 42 #[.val (.ref a1), .val (.int (3 : Int32))] [(.int (b0 &&& (255 : Int32)))])) := by
    intro t kt
    refine pre2 t ?_
    refine X1.baloadBytes hx (j := (2 : Int32)) (v := (.int b0)) (by rw [e1]; exact Ar3.1) (State.isArrayOf_alike hZ.alike Ar3.2.1) Ar3.2.2 hin3 (Hs3.at hin3 rfl) (g := (mkF m 37 #[.val (.ref a1), .val (.int (3 : Int32))] [(.int (2 : Int32)), (.ref a1)])) rfl rfl (hb hby d21_37) _ ?_
    show Steps p.tables e below (T1.setTop (mkF m 38 #[.val (.ref a1), .val (.int (3 : Int32))] [(.int b0)])) _
    refine XS.sipush X1.here hx rfl (hb hby d21_38) ?_
    show Steps p.tables e below (T1.setTop (mkF m 41 #[.val (.ref a1), .val (.int (3 : Int32))] [(.int (255 : Int32)), (.int b0)])) _
    refine XS.iand X1.here hx rfl (hb hby d21_41) rfl ?_
    show Steps p.tables e below (T1.setTop (mkF m 42 #[.val (.ref a1), .val (.int (3 : Int32))] [(.int (b0 &&& (255 : Int32)))])) _
    exact kt
  obtain ⟨T5, X5, e5, st5⟩ := getS2 X1 hx hZ hown (host := "") (Or.inl (hw _ (own_w 103 rfl))) Via.refl e1 (SH.ext O0.2) (g := (mkF m 42 #[.val (.ref a1), .val (.int (3 : Int32))] [(.int (b0 &&& (255 : Int32)))])) rfl (hb hby d21_42)
  have pre6 : own_Go p e below S0 (T5.setTop (mkF m 48 #[.val (.ref a1), .val (.int (3 : Int32))] [(.int (3 : Int32)), (.ref a1), (.int ((b0 &&& (255 : Int32)) <<< ((0 : Int32) &&& 31)))])) := by
    intro t kt
    refine pre4 t ?_
    refine st5 _ ?_
    show Steps p.tables e below (T5.setTop (mkF m 45 #[.val (.ref a1), .val (.int (3 : Int32))] [(.int (0 : Int32)), (.int (b0 &&& (255 : Int32)))])) _
    refine XS.ishl X5.here hx rfl (hb hby d21_45) rfl ?_
    show Steps p.tables e below (T5.setTop (mkF m 46 #[.val (.ref a1), .val (.int (3 : Int32))] [(.int ((b0 &&& (255 : Int32)) <<< ((0 : Int32) &&& 31)))])) _
    refine XS.aloadN X5.here hx rfl (hb hby d21_46) rfl rfl ?_
    show Steps p.tables e below (T5.setTop (mkF m 47 #[.val (.ref a1), .val (.int (3 : Int32))] [(.ref a1), (.int ((b0 &&& (255 : Int32)) <<< ((0 : Int32) &&& 31)))])) _
    refine XS.iloadN X5.here hx rfl (hb hby d21_47) rfl ?_
    show Steps p.tables e below (T5.setTop (mkF m 48 #[.val (.ref a1), .val (.int (3 : Int32))] [(.int (3 : Int32)), (.ref a1), (.int ((b0 &&& (255 : Int32)) <<< ((0 : Int32) &&& 31)))])) _
    exact kt
  obtain ⟨cl7, Ar7, -, Sz7, -, Hs7, -⟩ := id V1
  have hin7 : ¬ ((3 : Int32) < 0 ∨ cl7.slots.size ≤ ((3 : Int32)).toNatClampNeg) := inb_of Sz7 ⟨by decide, by decide⟩
  have pre8 : own_Go p e below S0 (T5.setTop (mkF m 53 #[.val (.ref a1), .val (.int (3 : Int32))] [(.int (b1 &&& (255 : Int32))), (.int ((b0 &&& (255 : Int32)) <<< ((0 : Int32) &&& 31)))])) := by
    intro t kt
    refine pre6 t ?_
    refine X5.baloadBytes hx (j := (3 : Int32)) (v := (.int b1)) (by rw [e5]; exact Ar7.1) (State.isArrayOf_alike hZ.alike Ar7.2.1) Ar7.2.2 hin7 (Hs7.at hin7 rfl) (g := (mkF m 48 #[.val (.ref a1), .val (.int (3 : Int32))] [(.int (3 : Int32)), (.ref a1), (.int ((b0 &&& (255 : Int32)) <<< ((0 : Int32) &&& 31)))])) rfl rfl (hb hby d21_48) _ ?_
    show Steps p.tables e below (T5.setTop (mkF m 49 #[.val (.ref a1), .val (.int (3 : Int32))] [(.int b1), (.int ((b0 &&& (255 : Int32)) <<< ((0 : Int32) &&& 31)))])) _
    refine XS.sipush X5.here hx rfl (hb hby d21_49) ?_
    show Steps p.tables e below (T5.setTop (mkF m 52 #[.val (.ref a1), .val (.int (3 : Int32))] [(.int (255 : Int32)), (.int b1), (.int ((b0 &&& (255 : Int32)) <<< ((0 : Int32) &&& 31)))])) _
    refine XS.iand X5.here hx rfl (hb hby d21_52) rfl ?_
    show Steps p.tables e below (T5.setTop (mkF m 53 #[.val (.ref a1), .val (.int (3 : Int32))] [(.int (b1 &&& (255 : Int32))), (.int ((b0 &&& (255 : Int32)) <<< ((0 : Int32) &&& 31)))])) _
    exact kt
  obtain ⟨T9, X9, e9, st9⟩ := getS2 X5 hx hZ hown (host := "") (Or.inl (hw _ (own_w 104 rfl))) Via.refl e5 (SL.ext O0.2) (g := (mkF m 53 #[.val (.ref a1), .val (.int (3 : Int32))] [(.int (b1 &&& (255 : Int32))), (.int ((b0 &&& (255 : Int32)) <<< ((0 : Int32) &&& 31)))])) rfl (hb hby d21_53)
  have pre10 : own_Go p e below S0 (T9.setTop (mkF m 59 #[.val (.ref a1), .val (.int (3 : Int32))] [(.int ((((b0 &&& (255 : Int32)) <<< ((0 : Int32) &&& 31)) ||| ((b1 &&& (255 : Int32)) <<< ((8 : Int32) &&& 31))).toUInt32.toUInt16.toUInt32.toInt32))])) := by
    intro t kt
    refine pre8 t ?_
    refine st9 _ ?_
    show Steps p.tables e below (T9.setTop (mkF m 56 #[.val (.ref a1), .val (.int (3 : Int32))] [(.int (8 : Int32)), (.int (b1 &&& (255 : Int32))), (.int ((b0 &&& (255 : Int32)) <<< ((0 : Int32) &&& 31)))])) _
    refine XS.ishl X9.here hx rfl (hb hby d21_56) rfl ?_
    show Steps p.tables e below (T9.setTop (mkF m 57 #[.val (.ref a1), .val (.int (3 : Int32))] [(.int ((b1 &&& (255 : Int32)) <<< ((8 : Int32) &&& 31))), (.int ((b0 &&& (255 : Int32)) <<< ((0 : Int32) &&& 31)))])) _
    refine XS.ior X9.here hx rfl (hb hby d21_57) rfl ?_
    show Steps p.tables e below (T9.setTop (mkF m 58 #[.val (.ref a1), .val (.int (3 : Int32))] [(.int (((b0 &&& (255 : Int32)) <<< ((0 : Int32) &&& 31)) ||| ((b1 &&& (255 : Int32)) <<< ((8 : Int32) &&& 31))))])) _
    refine XS.i2c X9.here hx rfl (hb hby d21_58) rfl ?_
    show Steps p.tables e below (T9.setTop (mkF m 59 #[.val (.ref a1), .val (.int (3 : Int32))] [(.int ((((b0 &&& (255 : Int32)) <<< ((0 : Int32) &&& 31)) ||| ((b1 &&& (255 : Int32)) <<< ((8 : Int32) &&& 31))).toUInt32.toUInt16.toUInt32.toInt32))])) _
    exact kt
  obtain ⟨fs, hr, hrun, hended, hW, hsame⟩ := X9.leave (v := some (.int (nar .char ((((b0 &&& (255 : Int32)) <<< ((0 : Int32) &&& 31)) ||| ((b1 &&& (255 : Int32)) <<< ((8 : Int32) &&& 31))).toUInt32.toUInt16.toUInt32.toInt32)))) (fun h => by rw [Bd.returns] at h; cases h)
  refine ⟨_, _, fin _ (pre10 _ ?_), hrun, hended, _, _, rfl, ?_, ⟨_, rfl⟩, hW, hsame.mono (by decide) (by decide)⟩
  · exact retN X9 hx (t := .char) Bd.returns (by simp) (hb hby d21_59) hr
  · show Qgetc_1_8 Z a1 k1 b0 b1 u0 u1 u4 u5 u6 u7 h0 n0 _ T9.heap _
    rw [e9]
    exact ⟨rfl, N0, rfl⟩

theorem ef_getc_2_8 (m : MethodId) (x0 : Addr) : entryFrame m #[(.ref x0), (.int (2 : Int32))] 2 = mkF m 0 #[.val (.ref x0), .val (.int (2 : Int32))] [] := by first | (simp [entryFrame, mkF, argsToLocals, Value.category]; done) | rfl
def Qgetc_2_8 (Z : State) (a1 : Addr) (k1 : ClassId) (b0 : Int32) (b1 : Int32) (u0 : Value) (u1 : Value) (u2 : Value) (u3 : Value) (u6 : Value) (u7 : Value) (h0 : Heap) (n0 : Nat) (v : Option Value) (h : Heap) (L : List Loc) : Prop := v = (some (.int (own_gc b0 b1))) ∧ Fr n0 L ∧ h = h0
set_option maxRecDepth 65536 in
set_option maxHeartbeats 40000000 in
theorem rmgetc_2_8 (l : Launch) (Z : State) (a0 : Array Value) (hw : ∀ d ∈ tables_1, d.before a0 Z = true) (ws : List Jvm.Cond) (a1 : Addr) (k1 : ClassId) (b0 : Int32) (b1 : Int32) (u0 : Value) (u1 : Value) (u2 : Value) (u3 : Value) (u6 : Value) (u7 : Value) (h0 : Heap) (n0 : Nat) (Z0 : n0 ≤ h0.size) (O0 : Old Z n0 h0) (SA : Sta Z Z.heap "java/lang/StringUTF16" "$assertionsDisabled" "Z" (.int (1 : Int32))) (SH : Sta Z Z.heap "java/lang/StringUTF16" "HI_BYTE_SHIFT" "I" (.int (0 : Int32))) (SL : Sta Z Z.heap "java/lang/StringUTF16" "LO_BYTE_SHIFT" "I" (.int (8 : Int32))) (V1 : Arv Z h0 a1 k1 .byte (8 : Int32) [u0, u1, u2, u3, (.int b0), (.int b1), u6, u7] (.int (0 : Int32))) :
    MetFree l (⟨"java/lang/StringUTF16", "getChar", "([BI)C"⟩ : MethodName) (head1 (Jvm.Cond.code (⟨"java/lang/StringUTF16", "getChar", "([BI)C"⟩ : MethodName) jdk_52_method_5_code 2 (some .char) :: ws) ({ frames := 0, cells := 0, slots := 0, locals := 0 } : Room)) (fun a U => a = #[(.ref a1), (.int (2 : Int32))] ∧ Z.Warmed39 U.vm ∧ U.heap = h0) (fun _ _ _ _ _ => True) (fun _ U o U' => ∃ v L, o = .returned v ∧ Qgetc_2_8 Z a1 k1 b0 b1 u0 u1 u2 u3 u6 u7 h0 n0 v U'.heap L ∧ FrameEnd U o U' L ({ frames := 0, cells := 0, slots := 0, locals := 0 } : Room).cells ({ frames := 0, cells := 0, slots := 0, locals := 0 } : Room).slots) := by
  refine MetFree.of_bodySF (plainFor_of_name pn_21) hisR ?_
  intro p e s m args below meth c s₁ Bd hml0 hP hK
  obtain ⟨rfl, hZ, hh⟩ := hP
  have hx := Bd.exec
  have hby := Bd.bytes
  have hml : c.maxLocals = 2 := hml0
  have hown0 := findClass_of_methodNamed Bd.named
  have hown : s.vm.findClass "java/lang/StringUTF16" = some m.cls := hown0
  have hnm := (name_of_methodNamed Bd.named Bd.method).1
  have X0 : Stand p l e ({ frames := 0, cells := 0, slots := 0, locals := 0 } : Room) s m #[(.ref a1), (.int (2 : Int32))] below meth c s₁ [] 0 0 := Stand.of_body Bd
  have e0 : s₁.heap = h0 := by rw [← hh, Bd.state]; rfl
  have N0 := Fr.nil n0
  obtain ⟨S0, hS0⟩ : ∃ z, z = s₁.setTop (entryFrame m #[(.ref a1), (.int (2 : Int32))] 2) := ⟨_, rfl⟩
  have pre0 : own_Go p e below S0 (s₁.setTop (mkF m 0 #[.val (.ref a1), .val (.int (2 : Int32))] [])) := fun t k => by rw [hS0]; exact castTop (ef_getc_2_8 m a1) k
  have fin : ∀ t, Steps p.tables e below S0 t → Steps p.tables e below (s₁.setTop (entryFrame m #[(.ref a1), (.int (2 : Int32))] 2)) t := fun t k => by rw [hS0] at k; exact k
  obtain ⟨T1, X1, e1, st1⟩ := getS2 X0 hx hZ hown (host := "") (Or.inl (hw _ (own_w 102 rfl))) Via.refl e0 (SA.ext O0.2) (g := (mkF m 0 #[.val (.ref a1), .val (.int (2 : Int32))] [])) rfl (hb hby d21_0)
  have pre2 : own_Go p e below S0 (T1.setTop (mkF m 37 #[.val (.ref a1), .val (.int (5 : Int32))] [(.int (4 : Int32)), (.ref a1)])) := by
    intro t kt
    refine pre0 t ?_
    refine st1 _ ?_
    show Steps p.tables e below (T1.setTop (mkF m 3 #[.val (.ref a1), .val (.int (2 : Int32))] [(.int (1 : Int32))])) _
    refine XS.ifYes X1.here hx rfl (pc0 := 3) (pc' := 28) rfl (hb hby d21_3) rfl ((if0 _ _).trans (feq (by decide : ¬ ((1 : Int32) = (0 : Int32)))).2) (by decide) (by decide) ?_
    show Steps p.tables e below (T1.setTop (mkF m 28 #[.val (.ref a1), .val (.int (2 : Int32))] [])) _
    refine XS.iloadN X1.here hx rfl (hb hby d21_28) rfl ?_
    show Steps p.tables e below (T1.setTop (mkF m 29 #[.val (.ref a1), .val (.int (2 : Int32))] [(.int (2 : Int32))])) _
    refine XS.iconst X1.here hx rfl (hb hby d21_29) ?_
    show Steps p.tables e below (T1.setTop (mkF m 30 #[.val (.ref a1), .val (.int (2 : Int32))] [(.int (1 : Int32)), (.int (2 : Int32))])) _
    refine XS.ishl X1.here hx rfl (hb hby d21_30) rfl ?_
    show Steps p.tables e below (T1.setTop (mkF m 31 #[.val (.ref a1), .val (.int (2 : Int32))] [(.int (4 : Int32))])) _
    refine XS.istoreN X1.here hx rfl (hb hby d21_31) rfl (l' := #[.val (.ref a1), .val (.int (4 : Int32))]) rfl ?_
    show Steps p.tables e below (T1.setTop (mkF m 32 #[.val (.ref a1), .val (.int (4 : Int32))] [])) _
    refine XS.aloadN X1.here hx rfl (hb hby d21_32) rfl rfl ?_
    show Steps p.tables e below (T1.setTop (mkF m 33 #[.val (.ref a1), .val (.int (4 : Int32))] [(.ref a1)])) _
    refine XS.iloadN X1.here hx rfl (hb hby d21_33) rfl ?_
    show Steps p.tables e below (T1.setTop (mkF m 34 #[.val (.ref a1), .val (.int (4 : Int32))] [(.int (4 : Int32)), (.ref a1)])) _
    refine XS.iinc X1.here hx rfl (hb hby d21_34) rfl (l' := #[.val (.ref a1), .val (.int (5 : Int32))]) rfl ?_
    show Steps p.tables e below (T1.setTop (mkF m 37 #[.val (.ref a1), .val (.int (5 : Int32))] [(.int (4 : Int32)), (.ref a1)])) _
    exact kt
  obtain ⟨cl3, Ar3, -, Sz3, -, Hs3, -⟩ := id V1
  have hin3 : ¬ ((4 : Int32) < 0 ∨ cl3.slots.size ≤ ((4 : Int32)).toNatClampNeg) := inb_of Sz3 ⟨by decide, by decide⟩
  have pre4 : own_Go p e below S0 (T1.setTop (mkF m 42 #[.val (.ref a1), .val (.int (5 : Int32))] [(.int (b0 &&& (255 : Int32)))])) := by
    intro t kt
    refine pre2 t ?_
    refine X1.baloadBytes hx (j := (4 : Int32)) (v := (.int b0)) (by rw [e1]; exact Ar3.1) (State.isArrayOf_alike hZ.alike Ar3.2.1) Ar3.2.2 hin3 (Hs3.at hin3 rfl) (g := (mkF m 37 #[.val (.ref a1), .val (.int (5 : Int32))] [(.int (4 : Int32)), (.ref a1)])) rfl rfl (hb hby d21_37) _ ?_
    show Steps p.tables e below (T1.setTop (mkF m 38 #[.val (.ref a1), .val (.int (5 : Int32))] [(.int b0)])) _
    refine XS.sipush X1.here hx rfl (hb hby d21_38) ?_
    show Steps p.tables e below (T1.setTop (mkF m 41 #[.val (.ref a1), .val (.int (5 : Int32))] [(.int (255 : Int32)), (.int b0)])) _
    refine XS.iand X1.here hx rfl (hb hby d21_41) rfl ?_
    show Steps p.tables e below (T1.setTop (mkF m 42 #[.val (.ref a1), .val (.int (5 : Int32))] [(.int (b0 &&& (255 : Int32)))])) _
    exact kt
  obtain ⟨T5, X5, e5, st5⟩ := getS2 X1 hx hZ hown (host := "") (Or.inl (hw _ (own_w 103 rfl))) Via.refl e1 (SH.ext O0.2) (g := (mkF m 42 #[.val (.ref a1), .val (.int (5 : Int32))] [(.int (b0 &&& (255 : Int32)))])) rfl (hb hby d21_42)
  have pre6 : own_Go p e below S0 (T5.setTop (mkF m 48 #[.val (.ref a1), .val (.int (5 : Int32))] [(.int (5 : Int32)), (.ref a1), (.int ((b0 &&& (255 : Int32)) <<< ((0 : Int32) &&& 31)))])) := by
    intro t kt
    refine pre4 t ?_
    refine st5 _ ?_
    show Steps p.tables e below (T5.setTop (mkF m 45 #[.val (.ref a1), .val (.int (5 : Int32))] [(.int (0 : Int32)), (.int (b0 &&& (255 : Int32)))])) _
    refine XS.ishl X5.here hx rfl (hb hby d21_45) rfl ?_
    show Steps p.tables e below (T5.setTop (mkF m 46 #[.val (.ref a1), .val (.int (5 : Int32))] [(.int ((b0 &&& (255 : Int32)) <<< ((0 : Int32) &&& 31)))])) _
    refine XS.aloadN X5.here hx rfl (hb hby d21_46) rfl rfl ?_
    show Steps p.tables e below (T5.setTop (mkF m 47 #[.val (.ref a1), .val (.int (5 : Int32))] [(.ref a1), (.int ((b0 &&& (255 : Int32)) <<< ((0 : Int32) &&& 31)))])) _
    refine XS.iloadN X5.here hx rfl (hb hby d21_47) rfl ?_
    show Steps p.tables e below (T5.setTop (mkF m 48 #[.val (.ref a1), .val (.int (5 : Int32))] [(.int (5 : Int32)), (.ref a1), (.int ((b0 &&& (255 : Int32)) <<< ((0 : Int32) &&& 31)))])) _
    exact kt
  obtain ⟨cl7, Ar7, -, Sz7, -, Hs7, -⟩ := id V1
  have hin7 : ¬ ((5 : Int32) < 0 ∨ cl7.slots.size ≤ ((5 : Int32)).toNatClampNeg) := inb_of Sz7 ⟨by decide, by decide⟩
  have pre8 : own_Go p e below S0 (T5.setTop (mkF m 53 #[.val (.ref a1), .val (.int (5 : Int32))] [(.int (b1 &&& (255 : Int32))), (.int ((b0 &&& (255 : Int32)) <<< ((0 : Int32) &&& 31)))])) := by
    intro t kt
    refine pre6 t ?_
    refine X5.baloadBytes hx (j := (5 : Int32)) (v := (.int b1)) (by rw [e5]; exact Ar7.1) (State.isArrayOf_alike hZ.alike Ar7.2.1) Ar7.2.2 hin7 (Hs7.at hin7 rfl) (g := (mkF m 48 #[.val (.ref a1), .val (.int (5 : Int32))] [(.int (5 : Int32)), (.ref a1), (.int ((b0 &&& (255 : Int32)) <<< ((0 : Int32) &&& 31)))])) rfl rfl (hb hby d21_48) _ ?_
    show Steps p.tables e below (T5.setTop (mkF m 49 #[.val (.ref a1), .val (.int (5 : Int32))] [(.int b1), (.int ((b0 &&& (255 : Int32)) <<< ((0 : Int32) &&& 31)))])) _
    refine XS.sipush X5.here hx rfl (hb hby d21_49) ?_
    show Steps p.tables e below (T5.setTop (mkF m 52 #[.val (.ref a1), .val (.int (5 : Int32))] [(.int (255 : Int32)), (.int b1), (.int ((b0 &&& (255 : Int32)) <<< ((0 : Int32) &&& 31)))])) _
    refine XS.iand X5.here hx rfl (hb hby d21_52) rfl ?_
    show Steps p.tables e below (T5.setTop (mkF m 53 #[.val (.ref a1), .val (.int (5 : Int32))] [(.int (b1 &&& (255 : Int32))), (.int ((b0 &&& (255 : Int32)) <<< ((0 : Int32) &&& 31)))])) _
    exact kt
  obtain ⟨T9, X9, e9, st9⟩ := getS2 X5 hx hZ hown (host := "") (Or.inl (hw _ (own_w 104 rfl))) Via.refl e5 (SL.ext O0.2) (g := (mkF m 53 #[.val (.ref a1), .val (.int (5 : Int32))] [(.int (b1 &&& (255 : Int32))), (.int ((b0 &&& (255 : Int32)) <<< ((0 : Int32) &&& 31)))])) rfl (hb hby d21_53)
  have pre10 : own_Go p e below S0 (T9.setTop (mkF m 59 #[.val (.ref a1), .val (.int (5 : Int32))] [(.int ((((b0 &&& (255 : Int32)) <<< ((0 : Int32) &&& 31)) ||| ((b1 &&& (255 : Int32)) <<< ((8 : Int32) &&& 31))).toUInt32.toUInt16.toUInt32.toInt32))])) := by
    intro t kt
    refine pre8 t ?_
    refine st9 _ ?_
    show Steps p.tables e below (T9.setTop (mkF m 56 #[.val (.ref a1), .val (.int (5 : Int32))] [(.int (8 : Int32)), (.int (b1 &&& (255 : Int32))), (.int ((b0 &&& (255 : Int32)) <<< ((0 : Int32) &&& 31)))])) _
    refine XS.ishl X9.here hx rfl (hb hby d21_56) rfl ?_
    show Steps p.tables e below (T9.setTop (mkF m 57 #[.val (.ref a1), .val (.int (5 : Int32))] [(.int ((b1 &&& (255 : Int32)) <<< ((8 : Int32) &&& 31))), (.int ((b0 &&& (255 : Int32)) <<< ((0 : Int32) &&& 31)))])) _
    refine XS.ior X9.here hx rfl (hb hby d21_57) rfl ?_
    show Steps p.tables e below (T9.setTop (mkF m 58 #[.val (.ref a1), .val (.int (5 : Int32))] [(.int (((b0 &&& (255 : Int32)) <<< ((0 : Int32) &&& 31)) ||| ((b1 &&& (255 : Int32)) <<< ((8 : Int32) &&& 31))))])) _
    refine XS.i2c X9.here hx rfl (hb hby d21_58) rfl ?_
    show Steps p.tables e below (T9.setTop (mkF m 59 #[.val (.ref a1), .val (.int (5 : Int32))] [(.int ((((b0 &&& (255 : Int32)) <<< ((0 : Int32) &&& 31)) ||| ((b1 &&& (255 : Int32)) <<< ((8 : Int32) &&& 31))).toUInt32.toUInt16.toUInt32.toInt32))])) _
    exact kt
  obtain ⟨fs, hr, hrun, hended, hW, hsame⟩ := X9.leave (v := some (.int (nar .char ((((b0 &&& (255 : Int32)) <<< ((0 : Int32) &&& 31)) ||| ((b1 &&& (255 : Int32)) <<< ((8 : Int32) &&& 31))).toUInt32.toUInt16.toUInt32.toInt32)))) (fun h => by rw [Bd.returns] at h; cases h)
  refine ⟨_, _, fin _ (pre10 _ ?_), hrun, hended, _, _, rfl, ?_, ⟨_, rfl⟩, hW, hsame.mono (by decide) (by decide)⟩
  · exact retN X9 hx (t := .char) Bd.returns (by simp) (hb hby d21_59) hr
  · show Qgetc_2_8 Z a1 k1 b0 b1 u0 u1 u2 u3 u6 u7 h0 n0 _ T9.heap _
    rw [e9]
    exact ⟨rfl, N0, rfl⟩

theorem ef_getc_3_8 (m : MethodId) (x0 : Addr) : entryFrame m #[(.ref x0), (.int (3 : Int32))] 2 = mkF m 0 #[.val (.ref x0), .val (.int (3 : Int32))] [] := by first | (simp [entryFrame, mkF, argsToLocals, Value.category]; done) | rfl
def Qgetc_3_8 (Z : State) (a1 : Addr) (k1 : ClassId) (b0 : Int32) (b1 : Int32) (u0 : Value) (u1 : Value) (u2 : Value) (u3 : Value) (u4 : Value) (u5 : Value) (h0 : Heap) (n0 : Nat) (v : Option Value) (h : Heap) (L : List Loc) : Prop := v = (some (.int (own_gc b0 b1))) ∧ Fr n0 L ∧ h = h0
set_option maxRecDepth 65536 in
set_option maxHeartbeats 40000000 in
theorem rmgetc_3_8 (l : Launch) (Z : State) (a0 : Array Value) (hw : ∀ d ∈ tables_1, d.before a0 Z = true) (ws : List Jvm.Cond) (a1 : Addr) (k1 : ClassId) (b0 : Int32) (b1 : Int32) (u0 : Value) (u1 : Value) (u2 : Value) (u3 : Value) (u4 : Value) (u5 : Value) (h0 : Heap) (n0 : Nat) (Z0 : n0 ≤ h0.size) (O0 : Old Z n0 h0) (SA : Sta Z Z.heap "java/lang/StringUTF16" "$assertionsDisabled" "Z" (.int (1 : Int32))) (SH : Sta Z Z.heap "java/lang/StringUTF16" "HI_BYTE_SHIFT" "I" (.int (0 : Int32))) (SL : Sta Z Z.heap "java/lang/StringUTF16" "LO_BYTE_SHIFT" "I" (.int (8 : Int32))) (V1 : Arv Z h0 a1 k1 .byte (8 : Int32) [u0, u1, u2, u3, u4, u5, (.int b0), (.int b1)] (.int (0 : Int32))) :
    MetFree l (⟨"java/lang/StringUTF16", "getChar", "([BI)C"⟩ : MethodName) (head1 (Jvm.Cond.code (⟨"java/lang/StringUTF16", "getChar", "([BI)C"⟩ : MethodName) jdk_52_method_5_code 2 (some .char) :: ws) ({ frames := 0, cells := 0, slots := 0, locals := 0 } : Room)) (fun a U => a = #[(.ref a1), (.int (3 : Int32))] ∧ Z.Warmed39 U.vm ∧ U.heap = h0) (fun _ _ _ _ _ => True) (fun _ U o U' => ∃ v L, o = .returned v ∧ Qgetc_3_8 Z a1 k1 b0 b1 u0 u1 u2 u3 u4 u5 h0 n0 v U'.heap L ∧ FrameEnd U o U' L ({ frames := 0, cells := 0, slots := 0, locals := 0 } : Room).cells ({ frames := 0, cells := 0, slots := 0, locals := 0 } : Room).slots) := by
  refine MetFree.of_bodySF (plainFor_of_name pn_21) hisR ?_
  intro p e s m args below meth c s₁ Bd hml0 hP hK
  obtain ⟨rfl, hZ, hh⟩ := hP
  have hx := Bd.exec
  have hby := Bd.bytes
  have hml : c.maxLocals = 2 := hml0
  have hown0 := findClass_of_methodNamed Bd.named
  have hown : s.vm.findClass "java/lang/StringUTF16" = some m.cls := hown0
  have hnm := (name_of_methodNamed Bd.named Bd.method).1
  have X0 : Stand p l e ({ frames := 0, cells := 0, slots := 0, locals := 0 } : Room) s m #[(.ref a1), (.int (3 : Int32))] below meth c s₁ [] 0 0 := Stand.of_body Bd
  have e0 : s₁.heap = h0 := by rw [← hh, Bd.state]; rfl
  have N0 := Fr.nil n0
  obtain ⟨S0, hS0⟩ : ∃ z, z = s₁.setTop (entryFrame m #[(.ref a1), (.int (3 : Int32))] 2) := ⟨_, rfl⟩
  have pre0 : own_Go p e below S0 (s₁.setTop (mkF m 0 #[.val (.ref a1), .val (.int (3 : Int32))] [])) := fun t k => by rw [hS0]; exact castTop (ef_getc_3_8 m a1) k
  have fin : ∀ t, Steps p.tables e below S0 t → Steps p.tables e below (s₁.setTop (entryFrame m #[(.ref a1), (.int (3 : Int32))] 2)) t := fun t k => by rw [hS0] at k; exact k
  obtain ⟨T1, X1, e1, st1⟩ := getS2 X0 hx hZ hown (host := "") (Or.inl (hw _ (own_w 102 rfl))) Via.refl e0 (SA.ext O0.2) (g := (mkF m 0 #[.val (.ref a1), .val (.int (3 : Int32))] [])) rfl (hb hby d21_0)
  have pre2 : own_Go p e below S0 (T1.setTop (mkF m 37 #[.val (.ref a1), .val (.int (7 : Int32))] [(.int (6 : Int32)), (.ref a1)])) := by
    intro t kt
    refine pre0 t ?_
    refine st1 _ ?_
    show Steps p.tables e below (T1.setTop (mkF m 3 #[.val (.ref a1), .val (.int (3 : Int32))] [(.int (1 : Int32))])) _
    refine XS.ifYes X1.here hx rfl (pc0 := 3) (pc' := 28) rfl (hb hby d21_3) rfl ((if0 _ _).trans (feq (by decide : ¬ ((1 : Int32) = (0 : Int32)))).2) (by decide) (by decide) ?_
    show Steps p.tables e below (T1.setTop (mkF m 28 #[.val (.ref a1), .val (.int (3 : Int32))] [])) _
    refine XS.iloadN X1.here hx rfl (hb hby d21_28) rfl ?_
    show Steps p.tables e below (T1.setTop (mkF m 29 #[.val (.ref a1), .val (.int (3 : Int32))] [(.int (3 : Int32))])) _
    refine XS.iconst X1.here hx rfl (hb hby d21_29) ?_
    show Steps p.tables e below (T1.setTop (mkF m 30 #[.val (.ref a1), .val (.int (3 : Int32))] [(.int (1 : Int32)), (.int (3 : Int32))])) _
    refine XS.ishl X1.here hx rfl (hb hby d21_30) rfl ?_
    show Steps p.tables e below (T1.setTop (mkF m 31 #[.val (.ref a1), .val (.int (3 : Int32))] [(.int (6 : Int32))])) _
    refine XS.istoreN X1.here hx rfl (hb hby d21_31) rfl (l' := #[.val (.ref a1), .val (.int (6 : Int32))]) rfl ?_
    show Steps p.tables e below (T1.setTop (mkF m 32 #[.val (.ref a1), .val (.int (6 : Int32))] [])) _
    refine XS.aloadN X1.here hx rfl (hb hby d21_32) rfl rfl ?_
    show Steps p.tables e below (T1.setTop (mkF m 33 #[.val (.ref a1), .val (.int (6 : Int32))] [(.ref a1)])) _
    refine XS.iloadN X1.here hx rfl (hb hby d21_33) rfl ?_
    show Steps p.tables e below (T1.setTop (mkF m 34 #[.val (.ref a1), .val (.int (6 : Int32))] [(.int (6 : Int32)), (.ref a1)])) _
    refine XS.iinc X1.here hx rfl (hb hby d21_34) rfl (l' := #[.val (.ref a1), .val (.int (7 : Int32))]) rfl ?_
    show Steps p.tables e below (T1.setTop (mkF m 37 #[.val (.ref a1), .val (.int (7 : Int32))] [(.int (6 : Int32)), (.ref a1)])) _
    exact kt
  obtain ⟨cl3, Ar3, -, Sz3, -, Hs3, -⟩ := id V1
  have hin3 : ¬ ((6 : Int32) < 0 ∨ cl3.slots.size ≤ ((6 : Int32)).toNatClampNeg) := inb_of Sz3 ⟨by decide, by decide⟩
  have pre4 : own_Go p e below S0 (T1.setTop (mkF m 42 #[.val (.ref a1), .val (.int (7 : Int32))] [(.int (b0 &&& (255 : Int32)))])) := by
    intro t kt
    refine pre2 t ?_
    refine X1.baloadBytes hx (j := (6 : Int32)) (v := (.int b0)) (by rw [e1]; exact Ar3.1) (State.isArrayOf_alike hZ.alike Ar3.2.1) Ar3.2.2 hin3 (Hs3.at hin3 rfl) (g := (mkF m 37 #[.val (.ref a1), .val (.int (7 : Int32))] [(.int (6 : Int32)), (.ref a1)])) rfl rfl (hb hby d21_37) _ ?_
    show Steps p.tables e below (T1.setTop (mkF m 38 #[.val (.ref a1), .val (.int (7 : Int32))] [(.int b0)])) _
    refine XS.sipush X1.here hx rfl (hb hby d21_38) ?_
    show Steps p.tables e below (T1.setTop (mkF m 41 #[.val (.ref a1), .val (.int (7 : Int32))] [(.int (255 : Int32)), (.int b0)])) _
    refine XS.iand X1.here hx rfl (hb hby d21_41) rfl ?_
    show Steps p.tables e below (T1.setTop (mkF m 42 #[.val (.ref a1), .val (.int (7 : Int32))] [(.int (b0 &&& (255 : Int32)))])) _
    exact kt
  obtain ⟨T5, X5, e5, st5⟩ := getS2 X1 hx hZ hown (host := "") (Or.inl (hw _ (own_w 103 rfl))) Via.refl e1 (SH.ext O0.2) (g := (mkF m 42 #[.val (.ref a1), .val (.int (7 : Int32))] [(.int (b0 &&& (255 : Int32)))])) rfl (hb hby d21_42)
  have pre6 : own_Go p e below S0 (T5.setTop (mkF m 48 #[.val (.ref a1), .val (.int (7 : Int32))] [(.int (7 : Int32)), (.ref a1), (.int ((b0 &&& (255 : Int32)) <<< ((0 : Int32) &&& 31)))])) := by
    intro t kt
    refine pre4 t ?_
    refine st5 _ ?_
    show Steps p.tables e below (T5.setTop (mkF m 45 #[.val (.ref a1), .val (.int (7 : Int32))] [(.int (0 : Int32)), (.int (b0 &&& (255 : Int32)))])) _
    refine XS.ishl X5.here hx rfl (hb hby d21_45) rfl ?_
    show Steps p.tables e below (T5.setTop (mkF m 46 #[.val (.ref a1), .val (.int (7 : Int32))] [(.int ((b0 &&& (255 : Int32)) <<< ((0 : Int32) &&& 31)))])) _
    refine XS.aloadN X5.here hx rfl (hb hby d21_46) rfl rfl ?_
    show Steps p.tables e below (T5.setTop (mkF m 47 #[.val (.ref a1), .val (.int (7 : Int32))] [(.ref a1), (.int ((b0 &&& (255 : Int32)) <<< ((0 : Int32) &&& 31)))])) _
    refine XS.iloadN X5.here hx rfl (hb hby d21_47) rfl ?_
    show Steps p.tables e below (T5.setTop (mkF m 48 #[.val (.ref a1), .val (.int (7 : Int32))] [(.int (7 : Int32)), (.ref a1), (.int ((b0 &&& (255 : Int32)) <<< ((0 : Int32) &&& 31)))])) _
    exact kt
  obtain ⟨cl7, Ar7, -, Sz7, -, Hs7, -⟩ := id V1
  have hin7 : ¬ ((7 : Int32) < 0 ∨ cl7.slots.size ≤ ((7 : Int32)).toNatClampNeg) := inb_of Sz7 ⟨by decide, by decide⟩
  have pre8 : own_Go p e below S0 (T5.setTop (mkF m 53 #[.val (.ref a1), .val (.int (7 : Int32))] [(.int (b1 &&& (255 : Int32))), (.int ((b0 &&& (255 : Int32)) <<< ((0 : Int32) &&& 31)))])) := by
    intro t kt
    refine pre6 t ?_
    refine X5.baloadBytes hx (j := (7 : Int32)) (v := (.int b1)) (by rw [e5]; exact Ar7.1) (State.isArrayOf_alike hZ.alike Ar7.2.1) Ar7.2.2 hin7 (Hs7.at hin7 rfl) (g := (mkF m 48 #[.val (.ref a1), .val (.int (7 : Int32))] [(.int (7 : Int32)), (.ref a1), (.int ((b0 &&& (255 : Int32)) <<< ((0 : Int32) &&& 31)))])) rfl rfl (hb hby d21_48) _ ?_
    show Steps p.tables e below (T5.setTop (mkF m 49 #[.val (.ref a1), .val (.int (7 : Int32))] [(.int b1), (.int ((b0 &&& (255 : Int32)) <<< ((0 : Int32) &&& 31)))])) _
    refine XS.sipush X5.here hx rfl (hb hby d21_49) ?_
    show Steps p.tables e below (T5.setTop (mkF m 52 #[.val (.ref a1), .val (.int (7 : Int32))] [(.int (255 : Int32)), (.int b1), (.int ((b0 &&& (255 : Int32)) <<< ((0 : Int32) &&& 31)))])) _
    refine XS.iand X5.here hx rfl (hb hby d21_52) rfl ?_
    show Steps p.tables e below (T5.setTop (mkF m 53 #[.val (.ref a1), .val (.int (7 : Int32))] [(.int (b1 &&& (255 : Int32))), (.int ((b0 &&& (255 : Int32)) <<< ((0 : Int32) &&& 31)))])) _
    exact kt
  obtain ⟨T9, X9, e9, st9⟩ := getS2 X5 hx hZ hown (host := "") (Or.inl (hw _ (own_w 104 rfl))) Via.refl e5 (SL.ext O0.2) (g := (mkF m 53 #[.val (.ref a1), .val (.int (7 : Int32))] [(.int (b1 &&& (255 : Int32))), (.int ((b0 &&& (255 : Int32)) <<< ((0 : Int32) &&& 31)))])) rfl (hb hby d21_53)
  have pre10 : own_Go p e below S0 (T9.setTop (mkF m 59 #[.val (.ref a1), .val (.int (7 : Int32))] [(.int ((((b0 &&& (255 : Int32)) <<< ((0 : Int32) &&& 31)) ||| ((b1 &&& (255 : Int32)) <<< ((8 : Int32) &&& 31))).toUInt32.toUInt16.toUInt32.toInt32))])) := by
    intro t kt
    refine pre8 t ?_
    refine st9 _ ?_
    show Steps p.tables e below (T9.setTop (mkF m 56 #[.val (.ref a1), .val (.int (7 : Int32))] [(.int (8 : Int32)), (.int (b1 &&& (255 : Int32))), (.int ((b0 &&& (255 : Int32)) <<< ((0 : Int32) &&& 31)))])) _
    refine XS.ishl X9.here hx rfl (hb hby d21_56) rfl ?_
    show Steps p.tables e below (T9.setTop (mkF m 57 #[.val (.ref a1), .val (.int (7 : Int32))] [(.int ((b1 &&& (255 : Int32)) <<< ((8 : Int32) &&& 31))), (.int ((b0 &&& (255 : Int32)) <<< ((0 : Int32) &&& 31)))])) _
    refine XS.ior X9.here hx rfl (hb hby d21_57) rfl ?_
    show Steps p.tables e below (T9.setTop (mkF m 58 #[.val (.ref a1), .val (.int (7 : Int32))] [(.int (((b0 &&& (255 : Int32)) <<< ((0 : Int32) &&& 31)) ||| ((b1 &&& (255 : Int32)) <<< ((8 : Int32) &&& 31))))])) _
    refine XS.i2c X9.here hx rfl (hb hby d21_58) rfl ?_
    show Steps p.tables e below (T9.setTop (mkF m 59 #[.val (.ref a1), .val (.int (7 : Int32))] [(.int ((((b0 &&& (255 : Int32)) <<< ((0 : Int32) &&& 31)) ||| ((b1 &&& (255 : Int32)) <<< ((8 : Int32) &&& 31))).toUInt32.toUInt16.toUInt32.toInt32))])) _
    exact kt
  obtain ⟨fs, hr, hrun, hended, hW, hsame⟩ := X9.leave (v := some (.int (nar .char ((((b0 &&& (255 : Int32)) <<< ((0 : Int32) &&& 31)) ||| ((b1 &&& (255 : Int32)) <<< ((8 : Int32) &&& 31))).toUInt32.toUInt16.toUInt32.toInt32)))) (fun h => by rw [Bd.returns] at h; cases h)
  refine ⟨_, _, fin _ (pre10 _ ?_), hrun, hended, _, _, rfl, ?_, ⟨_, rfl⟩, hW, hsame.mono (by decide) (by decide)⟩
  · exact retN X9 hx (t := .char) Bd.returns (by simp) (hb hby d21_59) hr
  · show Qgetc_3_8 Z a1 k1 b0 b1 u0 u1 u2 u3 u4 u5 h0 n0 _ T9.heap _
    rw [e9]
    exact ⟨rfl, N0, rfl⟩

theorem d7_0 : decode jdk_52_method_16_code 0 = .ok (.iload_n 2, 1) := by decide +kernel
theorem d7_1 : decode jdk_52_method_16_code 1 = .ok (.newarray .byte, 2) := by decide +kernel
theorem d7_3 : decode jdk_52_method_16_code 3 = .ok (.astore_n 3, 1) := by decide +kernel
theorem d7_4 : decode jdk_52_method_16_code 4 = .ok (.aload_n 0, 1) := by decide +kernel
theorem d7_5 : decode jdk_52_method_16_code 5 = .ok (.iload_n 1, 1) := by decide +kernel
theorem d7_6 : decode jdk_52_method_16_code 6 = .ok (.aload_n 3, 1) := by decide +kernel
theorem d7_7 : decode jdk_52_method_16_code 7 = .ok (.iconst 0, 1) := by decide +kernel
theorem d7_8 : decode jdk_52_method_16_code 8 = .ok (.iload_n 2, 1) := by decide +kernel
theorem d7_9 : decode jdk_52_method_16_code 9 = .ok (.invokestatic 115, 3) := by decide +kernel
theorem d7_12 : decode jdk_52_method_16_code 12 = .ok (.istore 4, 2) := by decide +kernel
theorem d7_14 : decode jdk_52_method_16_code 14 = .ok (.iload 4, 2) := by decide +kernel
theorem d7_16 : decode jdk_52_method_16_code 16 = .ok (.iload_n 2, 1) := by decide +kernel
theorem d7_17 : decode jdk_52_method_16_code 17 = .ok (.if_icmp .eq 40, 3) := by decide +kernel
theorem d7_20 : decode jdk_52_method_16_code 20 = .ok (.aload_n 0, 1) := by decide +kernel
theorem d7_21 : decode jdk_52_method_16_code 21 = .ok (.iload_n 1, 1) := by decide +kernel
theorem d7_22 : decode jdk_52_method_16_code 22 = .ok (.iload_n 2, 1) := by decide +kernel
theorem d7_23 : decode jdk_52_method_16_code 23 = .ok (.invokestatic 119, 3) := by decide +kernel
theorem d7_26 : decode jdk_52_method_16_code 26 = .ok (.astore 5, 2) := by decide +kernel
theorem d7_28 : decode jdk_52_method_16_code 28 = .ok (.aload 5, 2) := by decide +kernel
theorem d7_30 : decode jdk_52_method_16_code 30 = .ok (.iload 4, 2) := by decide +kernel
theorem d7_32 : decode jdk_52_method_16_code 32 = .ok (.invokestatic 71, 3) := by decide +kernel
theorem d7_35 : decode jdk_52_method_16_code 35 = .ok (.sipush 255, 3) := by decide +kernel
theorem d7_38 : decode jdk_52_method_16_code 38 = .ok (.if_icmp .gt 16, 3) := by decide +kernel
theorem d7_54 : decode jdk_52_method_16_code 54 = .ok (.aload 5, 2) := by decide +kernel
theorem d7_56 : decode jdk_52_method_16_code 56 = .ok (.areturn, 1) := by decide +kernel
theorem d7_57 : decode jdk_52_method_16_code 57 = .ok (.aload_n 3, 1) := by decide +kernel
theorem d7_58 : decode jdk_52_method_16_code 58 = .ok (.areturn, 1) := by decide +kernel
theorem pn_7 : plainName "java/lang/StringUTF16" = true := by first | (simp [plainName, overriddenIn]; done) | decide +kernel
theorem pd_3 : parseMethodDescriptor "([CI[BII)I" = some ⟨[(.array .char), .int, (.array .byte), .int, .int], some .int⟩ := by decide +kernel
theorem pd_4 : parseMethodDescriptor "([CII)[B" = some ⟨[(.array .char), .int, .int], some (.array .byte)⟩ := by decide +kernel
theorem pd_5 : parseMethodDescriptor "([BI)C" = some ⟨[(.array .byte), .int], some .char⟩ := by decide +kernel
theorem ef_cmp3_4 (m : MethodId) (x0 : Addr) : entryFrame m #[(.ref x0), (.int (0 : Int32)), (.int (4 : Int32))] 6 = mkF m 0 #[.val (.ref x0), .val (.int (0 : Int32)), .val (.int (4 : Int32)), .unset, .unset, .unset] [] := by first | (simp [entryFrame, mkF, argsToLocals, Value.category]; done) | rfl
def Qcmp3_4 (Z : State) (a1 : Addr) (kc : ClassId) (c0 : Int32) (c1 : Int32) (c2 : Int32) (c3 : Int32) (h0 : Heap) (n0 : Nat) (v : Option Value) (h : Heap) (L : List Loc) : Prop := ∃ b : Addr, ∃ kb : ClassId, v = (some (.ref b)) ∧ Fr n0 L ∧ Keep h0 h [] ∧ h0.size ≤ b ∧ ((own_Lat [c0, c1, c2, c3] ∧ Arv Z h b kb .byte (4 : Int32) [(.int (nar .byte (c0.toInt8.toInt32))), (.int (nar .byte (c1.toInt8.toInt32))), (.int (nar .byte (c2.toInt8.toInt32))), (.int (nar .byte (c3.toInt8.toInt32)))] (.int (0 : Int32))) ∨ (own_Chr [c0, c1, c2, c3] ∧ Arv Z h b kb .byte (8 : Int32) [(.int (nar .byte ((c0 >>> ((0 : Int32) &&& 31)).toInt8.toInt32))), (.int (nar .byte ((c0 >>> ((8 : Int32) &&& 31)).toInt8.toInt32))), (.int (nar .byte ((c1 >>> ((0 : Int32) &&& 31)).toInt8.toInt32))), (.int (nar .byte ((c1 >>> ((8 : Int32) &&& 31)).toInt8.toInt32))), (.int (nar .byte ((c2 >>> ((0 : Int32) &&& 31)).toInt8.toInt32))), (.int (nar .byte ((c2 >>> ((8 : Int32) &&& 31)).toInt8.toInt32))), (.int (nar .byte ((c3 >>> ((0 : Int32) &&& 31)).toInt8.toInt32))), (.int (nar .byte ((c3 >>> ((8 : Int32) &&& 31)).toInt8.toInt32)))] (.int (0 : Int32))))
set_option maxRecDepth 65536 in
set_option maxHeartbeats 40000000 in
theorem rmcmp3_4 (l : Launch) (Z : State) (a0 : Array Value) (hw : ∀ d ∈ tables_1, d.before a0 Z = true) (ws : List Jvm.Cond) (a1 : Addr) (kc : ClassId) (c0 : Int32) (c1 : Int32) (c2 : Int32) (c3 : Int32) (h0 : Heap) (n0 : Nat) (Z0 : n0 ≤ h0.size) (O0 : Old Z n0 h0) (SA : Sta Z Z.heap "java/lang/StringUTF16" "$assertionsDisabled" "Z" (.int (1 : Int32))) (SH : Sta Z Z.heap "java/lang/StringUTF16" "HI_BYTE_SHIFT" "I" (.int (0 : Int32))) (SL : Sta Z Z.heap "java/lang/StringUTF16" "LO_BYTE_SHIFT" "I" (.int (8 : Int32))) (VC : Arv Z h0 a1 kc .char (4 : Int32) [(.int c0), (.int c1), (.int c2), (.int c3)] (.int (0 : Int32))) :
    MetFree l (⟨"java/lang/StringUTF16", "compress", "([CII)[B"⟩ : MethodName) (head1 (Jvm.Cond.code (⟨"java/lang/StringUTF16", "compress", "([CII)[B"⟩ : MethodName) jdk_52_method_16_code 6 (some (.array .byte)) :: ws) ({ frames := 3, cells := 2, slots := 12, locals := 40 } : Room)) (fun a U => a = #[(.ref a1), (.int (0 : Int32)), (.int (4 : Int32))] ∧ Z.Warmed39 U.vm ∧ U.heap = h0) (fun _ _ _ _ _ => True) (fun _ U o U' => ∃ v L, o = .returned v ∧ Qcmp3_4 Z a1 kc c0 c1 c2 c3 h0 n0 v U'.heap L ∧ FrameEnd U o U' L ({ frames := 3, cells := 2, slots := 12, locals := 40 } : Room).cells ({ frames := 3, cells := 2, slots := 12, locals := 40 } : Room).slots) := by
  refine MetFree.of_bodySF (plainFor_of_name pn_7) hisR ?_
  intro p e s m args below meth c s₁ Bd hml0 hP hK
  obtain ⟨rfl, hZ, hh⟩ := hP
  have hx := Bd.exec
  have hby := Bd.bytes
  have hml : c.maxLocals = 6 := hml0
  have hown0 := findClass_of_methodNamed Bd.named
  have hown : s.vm.findClass "java/lang/StringUTF16" = some m.cls := hown0
  have hnm := (name_of_methodNamed Bd.named Bd.method).1
  have X0 : Stand p l e ({ frames := 3, cells := 2, slots := 12, locals := 40 } : Room) s m #[(.ref a1), (.int (0 : Int32)), (.int (4 : Int32))] below meth c s₁ [] 0 0 := Stand.of_body Bd
  have e0 : s₁.heap = h0 := by rw [← hh, Bd.state]; rfl
  have N0 := Fr.nil n0
  obtain ⟨S0, hS0⟩ : ∃ z, z = s₁.setTop (entryFrame m #[(.ref a1), (.int (0 : Int32)), (.int (4 : Int32))] 6) := ⟨_, rfl⟩
  have pre0 : own_Go p e below S0 (s₁.setTop (mkF m 0 #[.val (.ref a1), .val (.int (0 : Int32)), .val (.int (4 : Int32)), .unset, .unset, .unset] [])) := fun t k => by rw [hS0]; exact castTop (ef_cmp3_4 m a1) k
  have fin : ∀ t, Steps p.tables e below S0 t → Steps p.tables e below (s₁.setTop (entryFrame m #[(.ref a1), (.int (0 : Int32)), (.int (4 : Int32))] 6)) t := fun t k => by rw [hS0] at k; exact k
  have kc0 : Keep h0 h0 [] := Keep.refl _ _
  have pre1 : own_Go p e below S0 (s₁.setTop (mkF m 1 #[.val (.ref a1), .val (.int (0 : Int32)), .val (.int (4 : Int32)), .unset, .unset, .unset] [(.int (4 : Int32))])) := by
    intro t kt
    refine pre0 t ?_
    refine XS.iloadN X0.here hx rfl (hb hby d7_0) rfl ?_
    show Steps p.tables e below (s₁.setTop (mkF m 1 #[.val (.ref a1), .val (.int (0 : Int32)), .val (.int (4 : Int32)), .unset, .unset, .unset] [(.int (4 : Int32))])) _
    exact kt
  obtain ⟨T2, h2, k2, X2, e2, E2, A2, st2⟩ := newP X0 hx hZ (hw _ (own_w 46 rfl)) e0 (g := (mkF m 1 #[.val (.ref a1), .val (.int (0 : Int32)), .val (.int (4 : Int32)), .unset, .unset, .unset] [(.int (4 : Int32))])) rfl (hb hby d7_1) rfl (by decide) (cap := 4) (by decide) (by decide) (by decide) (by decide)
  obtain ⟨b2, g2⟩ : ∃ z, z = h0.size := ⟨_, rfl⟩
  rw [← g2] at A2 st2
  have ne3 : a1 ≠ b2 := Nat.ne_of_lt (Nat.lt_of_lt_of_le VC.lt (Nat.le_of_eq g2.symm))
  have ge4 : n0 ≤ b2 := Nat.le_trans Z0 (Nat.le_of_eq g2.symm)
  have sz5 : h0.size ≤ b2 := Nat.le_trans kc0.1 (Nat.le_of_eq g2.symm)
  have zs6 : n0 ≤ h2.size := Nat.le_trans Z0 E2.1
  have kc7 : Keep h0 h2 [] := kc0.ext E2
  have V2 : Arv Z h2 b2 k2 .byte (4 : Int32) [(.int (0 : Int32)), (.int (0 : Int32)), (.int (0 : Int32)), (.int (0 : Int32))] (.int (0 : Int32)) := (Arv.new A2 (by decide)).pad (pad_rep [] (.int (0 : Int32)) 4)
  have pre8 : own_Go p e below S0 (T2.setTop (mkF m 9 #[.val (.ref a1), .val (.int (0 : Int32)), .val (.int (4 : Int32)), .val (.ref b2), .unset, .unset] [(.int (4 : Int32)), (.int (0 : Int32)), (.ref b2), (.int (0 : Int32)), (.ref a1)])) := by
    intro t kt
    refine pre1 t ?_
    refine st2 _ ?_
    show Steps p.tables e below (T2.setTop (mkF m 3 #[.val (.ref a1), .val (.int (0 : Int32)), .val (.int (4 : Int32)), .unset, .unset, .unset] [(.ref b2)])) _
    refine XS.astoreN X2.here hx rfl (hb hby d7_3) rfl rfl (l' := #[.val (.ref a1), .val (.int (0 : Int32)), .val (.int (4 : Int32)), .val (.ref b2), .unset, .unset]) rfl ?_
    show Steps p.tables e below (T2.setTop (mkF m 4 #[.val (.ref a1), .val (.int (0 : Int32)), .val (.int (4 : Int32)), .val (.ref b2), .unset, .unset] [])) _
    refine XS.aloadN X2.here hx rfl (hb hby d7_4) rfl rfl ?_
    show Steps p.tables e below (T2.setTop (mkF m 5 #[.val (.ref a1), .val (.int (0 : Int32)), .val (.int (4 : Int32)), .val (.ref b2), .unset, .unset] [(.ref a1)])) _
    refine XS.iloadN X2.here hx rfl (hb hby d7_5) rfl ?_
    show Steps p.tables e below (T2.setTop (mkF m 6 #[.val (.ref a1), .val (.int (0 : Int32)), .val (.int (4 : Int32)), .val (.ref b2), .unset, .unset] [(.int (0 : Int32)), (.ref a1)])) _
    refine XS.aloadN X2.here hx rfl (hb hby d7_6) rfl rfl ?_
    show Steps p.tables e below (T2.setTop (mkF m 7 #[.val (.ref a1), .val (.int (0 : Int32)), .val (.int (4 : Int32)), .val (.ref b2), .unset, .unset] [(.ref b2), (.int (0 : Int32)), (.ref a1)])) _
    refine XS.iconst X2.here hx rfl (hb hby d7_7) ?_
    show Steps p.tables e below (T2.setTop (mkF m 8 #[.val (.ref a1), .val (.int (0 : Int32)), .val (.int (4 : Int32)), .val (.ref b2), .unset, .unset] [(.int (0 : Int32)), (.ref b2), (.int (0 : Int32)), (.ref a1)])) _
    refine XS.iloadN X2.here hx rfl (hb hby d7_8) rfl ?_
    show Steps p.tables e below (T2.setTop (mkF m 9 #[.val (.ref a1), .val (.int (0 : Int32)), .val (.int (4 : Int32)), .val (.ref b2), .unset, .unset] [(.int (4 : Int32)), (.int (0 : Int32)), (.ref b2), (.int (0 : Int32)), (.ref a1)])) _
    exact kt
  have f9 : Arv Z h2 a1 kc .char (4 : Int32) [(.int c0), (.int c1), (.int c2), (.int c3)] (.int (0 : Int32)) := (VC.ext E2)
  obtain ⟨_, _, ⟨T10, L10, k10, n10⟩, -, X10, ⟨Lc10, hQ10, l10, y10, z10⟩, st10⟩ := Jvm.LawKit.callS X2 hx (y := (⟨"java/lang/StringUTF16", "compress", "([CI[BII)I"⟩ : MethodName)) hown (mvT hZ (hw _ (own_w 47 rfl))) (mvT hZ (hw _ (own_w 48 rfl))) (mvT hZ (hw _ (own_w 44 rfl))) (mvT hZ (hw _ (own_w 49 rfl))) (by decide) (backOf (W := 0) (rmcmp5_4 l Z a0 hw [] a1 b2 kc k2 c0 c1 c2 c3 h2 n0 zs6 f9 ge4 V2 ne3) hZ (hw _ (own_w 49 rfl)) (hw _ (own_w 44 rfl)) (by decide) (by decide)) (g := (mkF m 9 #[.val (.ref a1), .val (.int (0 : Int32)), .val (.int (4 : Int32)), .val (.ref b2), .unset, .unset] [(.int (4 : Int32)), (.int (0 : Int32)), (.ref b2), (.int (0 : Int32)), (.ref a1)])) rfl (by rw [hml]; rfl) (argsL := [(.ref a1), (.int (0 : Int32)), (.ref b2), (.int (0 : Int32)), (.int (4 : Int32))]) (rest := []) (lenOf pd_3 rfl) rfl (by show 2 * 0 + _ ≤ _; exact Nat.le_of_eq rfl) (hb hby d7_9) (fun _ _ => ⟨rfl, e2, (by decide : 1 + 0 ≤ _), (by decide : 4 + 0 ≤ _)⟩)
  dsimp only [Pt.U, Pt.locs, Pt.cells, Pt.slots] at X10 l10 y10 z10 st10 hQ10
  subst l10 y10 z10
  obtain ⟨r11, rfl, Nq10, K10, g12⟩ := hQ10
  have N10 := Fr.app N0 Nq10
  have zs13 : n0 ≤ T10.heap.size := Nat.le_trans zs6 K10.1
  have kc14 : Keep h0 T10.heap [] := kc7.trans K10 (allS (Or.inr sz5) all0)
  have pre15 : own_Go p e below S0 (T10.setTop (mkF m 12 #[.val (.ref a1), .val (.int (0 : Int32)), .val (.int (4 : Int32)), .val (.ref b2), .unset, .unset] [(.int r11)])) := by
    intro t kt
    refine pre8 t ?_
    refine st10 _ ?_
    show Steps p.tables e below (T10.setTop (mkF m 12 #[.val (.ref a1), .val (.int (0 : Int32)), .val (.int (4 : Int32)), .val (.ref b2), .unset, .unset] [(.int r11)])) _
    exact kt
  obtain ⟨hr, hl, hv⟩ | ⟨hr, hg⟩ | ⟨hr, hg⟩ | ⟨hr, hg⟩ | ⟨hr, hg⟩ := g12
  · have pre16 : own_Go p e below S0 (T10.setTop (mkF m 12 #[.val (.ref a1), .val (.int (0 : Int32)), .val (.int (4 : Int32)), .val (.ref b2), .unset, .unset] [(.int (4 : Int32))])) := by
      intro t kt
      refine pre15 t ?_
      rw [hr]
      exact kt
    have pre17 : own_Go p e below S0 (T10.setTop (mkF m 58 #[.val (.ref a1), .val (.int (0 : Int32)), .val (.int (4 : Int32)), .val (.ref b2), .val (.int (4 : Int32)), .unset] [(.ref b2)])) := by
      intro t kt
      refine pre16 t ?_
      refine XS.istore X10.here hx rfl (hb hby d7_12) rfl (l' := #[.val (.ref a1), .val (.int (0 : Int32)), .val (.int (4 : Int32)), .val (.ref b2), .val (.int (4 : Int32)), .unset]) rfl ?_
      show Steps p.tables e below (T10.setTop (mkF m 14 #[.val (.ref a1), .val (.int (0 : Int32)), .val (.int (4 : Int32)), .val (.ref b2), .val (.int (4 : Int32)), .unset] [])) _
      refine XS.iload X10.here hx rfl (hb hby d7_14) rfl ?_
      show Steps p.tables e below (T10.setTop (mkF m 16 #[.val (.ref a1), .val (.int (0 : Int32)), .val (.int (4 : Int32)), .val (.ref b2), .val (.int (4 : Int32)), .unset] [(.int (4 : Int32))])) _
      refine XS.iloadN X10.here hx rfl (hb hby d7_16) rfl ?_
      show Steps p.tables e below (T10.setTop (mkF m 17 #[.val (.ref a1), .val (.int (0 : Int32)), .val (.int (4 : Int32)), .val (.ref b2), .val (.int (4 : Int32)), .unset] [(.int (4 : Int32)), (.int (4 : Int32))])) _
      refine XS.icmpYes X10.here hx rfl (pc0 := 17) (pc' := 57) rfl (hb hby d7_17) rfl (teq (by decide : (4 : Int32) = (4 : Int32))).1 (by decide) (by decide) ?_
      show Steps p.tables e below (T10.setTop (mkF m 57 #[.val (.ref a1), .val (.int (0 : Int32)), .val (.int (4 : Int32)), .val (.ref b2), .val (.int (4 : Int32)), .unset] [])) _
      refine XS.aloadN X10.here hx rfl (hb hby d7_57) rfl rfl ?_
      show Steps p.tables e below (T10.setTop (mkF m 58 #[.val (.ref a1), .val (.int (0 : Int32)), .val (.int (4 : Int32)), .val (.ref b2), .val (.int (4 : Int32)), .unset] [(.ref b2)])) _
      exact kt
    obtain ⟨fs, hr, hrun, hended, hW, hsame⟩ := X10.leave (v := some (.ref b2)) (fun h => by rw [Bd.returns] at h; cases h)
    refine ⟨_, _, fin _ (pre17 _ ?_), hrun, hended, _, _, rfl, ?_, ⟨_, rfl⟩, hW, hsame.mono (by decide) (by decide)⟩
    · jvm_step X10.here [X10.here.top, hx, (hb hby d7_58), X10.method', Bd.returns, Value.isRef, FieldType.isReference]
      first | (intro acts; rw [hr _ acts rfl rfl rfl]) | rw [hr _ _ rfl rfl rfl]
      exact Steps.refl _
    · show Qcmp3_4 Z a1 kc c0 c1 c2 c3 h0 n0 _ T10.heap _
      exact ⟨b2, k2, rfl, N10, kc14, sz5, (Or.inl ⟨hl, hv⟩)⟩
  · have pre18 : own_Go p e below S0 (T10.setTop (mkF m 12 #[.val (.ref a1), .val (.int (0 : Int32)), .val (.int (4 : Int32)), .val (.ref b2), .unset, .unset] [(.int (0 : Int32))])) := by
      intro t kt
      refine pre15 t ?_
      rw [hr]
      exact kt
    have pre19 : own_Go p e below S0 (T10.setTop (mkF m 23 #[.val (.ref a1), .val (.int (0 : Int32)), .val (.int (4 : Int32)), .val (.ref b2), .val (.int (0 : Int32)), .unset] [(.int (4 : Int32)), (.int (0 : Int32)), (.ref a1)])) := by
      intro t kt
      refine pre18 t ?_
      refine XS.istore X10.here hx rfl (hb hby d7_12) rfl (l' := #[.val (.ref a1), .val (.int (0 : Int32)), .val (.int (4 : Int32)), .val (.ref b2), .val (.int (0 : Int32)), .unset]) rfl ?_
      show Steps p.tables e below (T10.setTop (mkF m 14 #[.val (.ref a1), .val (.int (0 : Int32)), .val (.int (4 : Int32)), .val (.ref b2), .val (.int (0 : Int32)), .unset] [])) _
      refine XS.iload X10.here hx rfl (hb hby d7_14) rfl ?_
      show Steps p.tables e below (T10.setTop (mkF m 16 #[.val (.ref a1), .val (.int (0 : Int32)), .val (.int (4 : Int32)), .val (.ref b2), .val (.int (0 : Int32)), .unset] [(.int (0 : Int32))])) _
      refine XS.iloadN X10.here hx rfl (hb hby d7_16) rfl ?_
      show Steps p.tables e below (T10.setTop (mkF m 17 #[.val (.ref a1), .val (.int (0 : Int32)), .val (.int (4 : Int32)), .val (.ref b2), .val (.int (0 : Int32)), .unset] [(.int (4 : Int32)), (.int (0 : Int32))])) _
      refine XS.icmpNo X10.here hx rfl (hb hby d7_17) rfl (feq (by decide : ¬ ((0 : Int32) = (4 : Int32)))).1 ?_
      show Steps p.tables e below (T10.setTop (mkF m 20 #[.val (.ref a1), .val (.int (0 : Int32)), .val (.int (4 : Int32)), .val (.ref b2), .val (.int (0 : Int32)), .unset] [])) _
      refine XS.aloadN X10.here hx rfl (hb hby d7_20) rfl rfl ?_
      show Steps p.tables e below (T10.setTop (mkF m 21 #[.val (.ref a1), .val (.int (0 : Int32)), .val (.int (4 : Int32)), .val (.ref b2), .val (.int (0 : Int32)), .unset] [(.ref a1)])) _
      refine XS.iloadN X10.here hx rfl (hb hby d7_21) rfl ?_
      show Steps p.tables e below (T10.setTop (mkF m 22 #[.val (.ref a1), .val (.int (0 : Int32)), .val (.int (4 : Int32)), .val (.ref b2), .val (.int (0 : Int32)), .unset] [(.int (0 : Int32)), (.ref a1)])) _
      refine XS.iloadN X10.here hx rfl (hb hby d7_22) rfl ?_
      show Steps p.tables e below (T10.setTop (mkF m 23 #[.val (.ref a1), .val (.int (0 : Int32)), .val (.int (4 : Int32)), .val (.ref b2), .val (.int (0 : Int32)), .unset] [(.int (4 : Int32)), (.int (0 : Int32)), (.ref a1)])) _
      exact kt
    have f20 : Old Z n0 T10.heap := ((O0.ext E2).keep K10 (allS ge4 all0))
    have f21 : Arv Z T10.heap a1 kc .char (4 : Int32) [(.int c0), (.int c1), (.int c2), (.int c3)] (.int (0 : Int32)) := (f9.keep K10 (ninS ne3 nin0))
    obtain ⟨_, _, ⟨T22, L22, k22, n22⟩, -, X22, ⟨Lc22, hQ22, l22, y22, z22⟩, st22⟩ := Jvm.LawKit.callS X10 hx (y := (⟨"java/lang/StringUTF16", "toBytes", "([CII)[B"⟩ : MethodName)) hown (mvT hZ (hw _ (own_w 89 rfl))) (mvT hZ (hw _ (own_w 90 rfl))) (mvT hZ (hw _ (own_w 44 rfl))) (mvT hZ (hw _ (own_w 91 rfl))) (by decide) (backOf (W := 0) (rmtoB_4 l Z a0 hw [] a1 kc c0 c1 c2 c3 T10.heap n0 zs13 f20 SA SH SL f21) hZ (hw _ (own_w 91 rfl)) (hw _ (own_w 44 rfl)) (by decide) (by decide)) (g := (mkF m 23 #[.val (.ref a1), .val (.int (0 : Int32)), .val (.int (4 : Int32)), .val (.ref b2), .val (.int (0 : Int32)), .unset] [(.int (4 : Int32)), (.int (0 : Int32)), (.ref a1)])) rfl (by rw [hml]; rfl) (argsL := [(.ref a1), (.int (0 : Int32)), (.int (4 : Int32))]) (rest := []) (lenOf pd_4 rfl) rfl (by show 2 * 0 + _ ≤ _; exact Nat.le_of_eq rfl) (hb hby d7_23) (fun _ _ => ⟨rfl, rfl, (by decide : 1 + 1 ≤ _), (by decide : 4 + 8 ≤ _)⟩)
    dsimp only [Pt.U, Pt.locs, Pt.cells, Pt.slots] at X22 l22 y22 z22 st22 hQ22
    subst l22 y22 z22
    obtain ⟨b23, kb24, rfl, Nq22, K22, g25, g26⟩ := hQ22
    have N22 := Fr.app N10 Nq22
    have ne27 : a1 ≠ b23 := Nat.ne_of_lt (Nat.lt_of_lt_of_le f21.lt g25)
    have ge28 : n0 ≤ b23 := Nat.le_trans zs13 g25
    have sz29 : h0.size ≤ b23 := Nat.le_trans kc14.1 g25
    have zs30 : n0 ≤ T22.heap.size := Nat.le_trans zs13 K22.1
    have kc31 : Keep h0 T22.heap [] := kc14.trans K22 all0
    have pre32 : own_Go p e below S0 (T22.setTop (mkF m 32 #[.val (.ref a1), .val (.int (0 : Int32)), .val (.int (4 : Int32)), .val (.ref b2), .val (.int (0 : Int32)), .val (.ref b23)] [(.int (0 : Int32)), (.ref b23)])) := by
      intro t kt
      refine pre19 t ?_
      refine st22 _ ?_
      show Steps p.tables e below (T22.setTop (mkF m 26 #[.val (.ref a1), .val (.int (0 : Int32)), .val (.int (4 : Int32)), .val (.ref b2), .val (.int (0 : Int32)), .unset] [(.ref b23)])) _
      refine XS.astore X22.here hx rfl (hb hby d7_26) rfl rfl (l' := #[.val (.ref a1), .val (.int (0 : Int32)), .val (.int (4 : Int32)), .val (.ref b2), .val (.int (0 : Int32)), .val (.ref b23)]) rfl ?_
      show Steps p.tables e below (T22.setTop (mkF m 28 #[.val (.ref a1), .val (.int (0 : Int32)), .val (.int (4 : Int32)), .val (.ref b2), .val (.int (0 : Int32)), .val (.ref b23)] [])) _
      refine XS.aload X22.here hx rfl (hb hby d7_28) rfl rfl ?_
      show Steps p.tables e below (T22.setTop (mkF m 30 #[.val (.ref a1), .val (.int (0 : Int32)), .val (.int (4 : Int32)), .val (.ref b2), .val (.int (0 : Int32)), .val (.ref b23)] [(.ref b23)])) _
      refine XS.iload X22.here hx rfl (hb hby d7_30) rfl ?_
      show Steps p.tables e below (T22.setTop (mkF m 32 #[.val (.ref a1), .val (.int (0 : Int32)), .val (.int (4 : Int32)), .val (.ref b2), .val (.int (0 : Int32)), .val (.ref b23)] [(.int (0 : Int32)), (.ref b23)])) _
      exact kt
    have f33 : Old Z n0 T22.heap := (f20.keep K22 all0)
    obtain ⟨_, _, ⟨T34, L34, k34, n34⟩, -, X34, ⟨Lc34, hQ34, l34, y34, z34⟩, st34⟩ := Jvm.LawKit.callS X22 hx (y := (⟨"java/lang/StringUTF16", "getChar", "([BI)C"⟩ : MethodName)) hown (mvT hZ (hw _ (own_w 105 rfl))) (mvT hZ (hw _ (own_w 106 rfl))) (mvT hZ (hw _ (own_w 44 rfl))) (mvT hZ (hw _ (own_w 107 rfl))) (by decide) (backOf (W := 0) (rmgetc_0_8 l Z a0 hw [] b23 kb24 (nar .byte ((c0 >>> ((0 : Int32) &&& 31)).toInt8.toInt32)) (nar .byte ((c0 >>> ((8 : Int32) &&& 31)).toInt8.toInt32)) (.int (nar .byte ((c1 >>> ((0 : Int32) &&& 31)).toInt8.toInt32))) (.int (nar .byte ((c1 >>> ((8 : Int32) &&& 31)).toInt8.toInt32))) (.int (nar .byte ((c2 >>> ((0 : Int32) &&& 31)).toInt8.toInt32))) (.int (nar .byte ((c2 >>> ((8 : Int32) &&& 31)).toInt8.toInt32))) (.int (nar .byte ((c3 >>> ((0 : Int32) &&& 31)).toInt8.toInt32))) (.int (nar .byte ((c3 >>> ((8 : Int32) &&& 31)).toInt8.toInt32))) T22.heap n0 zs30 f33 SA SH SL g26) hZ (hw _ (own_w 107 rfl)) (hw _ (own_w 44 rfl)) (by decide) (by decide)) (g := (mkF m 32 #[.val (.ref a1), .val (.int (0 : Int32)), .val (.int (4 : Int32)), .val (.ref b2), .val (.int (0 : Int32)), .val (.ref b23)] [(.int (0 : Int32)), (.ref b23)])) rfl (by rw [hml]; rfl) (argsL := [(.ref b23), (.int (0 : Int32))]) (rest := []) (lenOf pd_5 rfl) rfl (by show 2 * 0 + _ ≤ _; exact Nat.le_of_eq rfl) (hb hby d7_32) (fun _ _ => ⟨rfl, rfl, (by decide : 2 + 0 ≤ _), (by decide : 12 + 0 ≤ _)⟩)
    dsimp only [Pt.U, Pt.locs, Pt.cells, Pt.slots] at X34 l34 y34 z34 st34 hQ34
    subst l34 y34 z34
    obtain ⟨rfl, Nq34, eq34⟩ := hQ34
    have N34 := Fr.app N22 Nq34
    have pre35 : own_Go p e below S0 (T34.setTop (mkF m 35 #[.val (.ref a1), .val (.int (0 : Int32)), .val (.int (4 : Int32)), .val (.ref b2), .val (.int (0 : Int32)), .val (.ref b23)] [(.int (own_gc (nar .byte ((c0 >>> ((0 : Int32) &&& 31)).toInt8.toInt32)) (nar .byte ((c0 >>> ((8 : Int32) &&& 31)).toInt8.toInt32))))])) := by
      intro t kt
      refine pre32 t ?_
      refine st34 _ ?_
      show Steps p.tables e below (T34.setTop (mkF m 35 #[.val (.ref a1), .val (.int (0 : Int32)), .val (.int (4 : Int32)), .val (.ref b2), .val (.int (0 : Int32)), .val (.ref b23)] [(.int (own_gc (nar .byte ((c0 >>> ((0 : Int32) &&& 31)).toInt8.toInt32)) (nar .byte ((c0 >>> ((8 : Int32) &&& 31)).toInt8.toInt32))))])) _
      exact kt
    have pre36 : own_Go p e below S0 (T34.setTop (mkF m 35 #[.val (.ref a1), .val (.int (0 : Int32)), .val (.int (4 : Int32)), .val (.ref b2), .val (.int (0 : Int32)), .val (.ref b23)] [(.int c0)])) := by
      intro t kt
      refine pre35 t ?_
      rw [own_utfget c0 (own_fitAt VC 0 (by decide) rfl)]
      exact kt
    have pre37 : own_Go p e below S0 (T34.setTop (mkF m 56 #[.val (.ref a1), .val (.int (0 : Int32)), .val (.int (4 : Int32)), .val (.ref b2), .val (.int (0 : Int32)), .val (.ref b23)] [(.ref b23)])) := by
      intro t kt
      refine pre36 t ?_
      refine XS.sipush X34.here hx rfl (hb hby d7_35) ?_
      show Steps p.tables e below (T34.setTop (mkF m 38 #[.val (.ref a1), .val (.int (0 : Int32)), .val (.int (4 : Int32)), .val (.ref b2), .val (.int (0 : Int32)), .val (.ref b23)] [(.int (255 : Int32)), (.int c0)])) _
      refine XS.icmpYes X34.here hx rfl (pc0 := 38) (pc' := 54) rfl (hb hby d7_38) rfl (tlt hg).2.2.1 (by decide) (by decide) ?_
      show Steps p.tables e below (T34.setTop (mkF m 54 #[.val (.ref a1), .val (.int (0 : Int32)), .val (.int (4 : Int32)), .val (.ref b2), .val (.int (0 : Int32)), .val (.ref b23)] [])) _
      refine XS.aload X34.here hx rfl (hb hby d7_54) rfl rfl ?_
      show Steps p.tables e below (T34.setTop (mkF m 56 #[.val (.ref a1), .val (.int (0 : Int32)), .val (.int (4 : Int32)), .val (.ref b2), .val (.int (0 : Int32)), .val (.ref b23)] [(.ref b23)])) _
      exact kt
    obtain ⟨fs, hr, hrun, hended, hW, hsame⟩ := X34.leave (v := some (.ref b23)) (fun h => by rw [Bd.returns] at h; cases h)
    refine ⟨_, _, fin _ (pre37 _ ?_), hrun, hended, _, _, rfl, ?_, ⟨_, rfl⟩, hW, hsame.mono (by decide) (by decide)⟩
    · jvm_step X34.here [X34.here.top, hx, (hb hby d7_56), X34.method', Bd.returns, Value.isRef, FieldType.isReference]
      first | (intro acts; rw [hr _ acts rfl rfl rfl]) | rw [hr _ _ rfl rfl rfl]
      exact Steps.refl _
    · show Qcmp3_4 Z a1 kc c0 c1 c2 c3 h0 n0 _ T34.heap _
      rw [eq34]
      exact ⟨b23, kb24, rfl, N34, kc31, sz29, (Or.inr ⟨⟨own_fitAt VC 0 (by decide) rfl, ⟨own_fitAt VC 1 (by decide) rfl, ⟨own_fitAt VC 2 (by decide) rfl, ⟨own_fitAt VC 3 (by decide) rfl, trivial⟩⟩⟩⟩, g26⟩)⟩
  · have pre38 : own_Go p e below S0 (T10.setTop (mkF m 12 #[.val (.ref a1), .val (.int (0 : Int32)), .val (.int (4 : Int32)), .val (.ref b2), .unset, .unset] [(.int (1 : Int32))])) := by
      intro t kt
      refine pre15 t ?_
      rw [hr]
      exact kt
    have pre39 : own_Go p e below S0 (T10.setTop (mkF m 23 #[.val (.ref a1), .val (.int (0 : Int32)), .val (.int (4 : Int32)), .val (.ref b2), .val (.int (1 : Int32)), .unset] [(.int (4 : Int32)), (.int (0 : Int32)), (.ref a1)])) := by
      intro t kt
      refine pre38 t ?_
      refine XS.istore X10.here hx rfl (hb hby d7_12) rfl (l' := #[.val (.ref a1), .val (.int (0 : Int32)), .val (.int (4 : Int32)), .val (.ref b2), .val (.int (1 : Int32)), .unset]) rfl ?_
      show Steps p.tables e below (T10.setTop (mkF m 14 #[.val (.ref a1), .val (.int (0 : Int32)), .val (.int (4 : Int32)), .val (.ref b2), .val (.int (1 : Int32)), .unset] [])) _
      refine XS.iload X10.here hx rfl (hb hby d7_14) rfl ?_
      show Steps p.tables e below (T10.setTop (mkF m 16 #[.val (.ref a1), .val (.int (0 : Int32)), .val (.int (4 : Int32)), .val (.ref b2), .val (.int (1 : Int32)), .unset] [(.int (1 : Int32))])) _
      refine XS.iloadN X10.here hx rfl (hb hby d7_16) rfl ?_
      show Steps p.tables e below (T10.setTop (mkF m 17 #[.val (.ref a1), .val (.int (0 : Int32)), .val (.int (4 : Int32)), .val (.ref b2), .val (.int (1 : Int32)), .unset] [(.int (4 : Int32)), (.int (1 : Int32))])) _
      refine XS.icmpNo X10.here hx rfl (hb hby d7_17) rfl (feq (by decide : ¬ ((1 : Int32) = (4 : Int32)))).1 ?_
      show Steps p.tables e below (T10.setTop (mkF m 20 #[.val (.ref a1), .val (.int (0 : Int32)), .val (.int (4 : Int32)), .val (.ref b2), .val (.int (1 : Int32)), .unset] [])) _
      refine XS.aloadN X10.here hx rfl (hb hby d7_20) rfl rfl ?_
      show Steps p.tables e below (T10.setTop (mkF m 21 #[.val (.ref a1), .val (.int (0 : Int32)), .val (.int (4 : Int32)), .val (.ref b2), .val (.int (1 : Int32)), .unset] [(.ref a1)])) _
      refine XS.iloadN X10.here hx rfl (hb hby d7_21) rfl ?_
      show Steps p.tables e below (T10.setTop (mkF m 22 #[.val (.ref a1), .val (.int (0 : Int32)), .val (.int (4 : Int32)), .val (.ref b2), .val (.int (1 : Int32)), .unset] [(.int (0 : Int32)), (.ref a1)])) _
      refine XS.iloadN X10.here hx rfl (hb hby d7_22) rfl ?_
      show Steps p.tables e below (T10.setTop (mkF m 23 #[.val (.ref a1), .val (.int (0 : Int32)), .val (.int (4 : Int32)), .val (.ref b2), .val (.int (1 : Int32)), .unset] [(.int (4 : Int32)), (.int (0 : Int32)), (.ref a1)])) _
      exact kt
    have f40 : Old Z n0 T10.heap := ((O0.ext E2).keep K10 (allS ge4 all0))
    have f41 : Arv Z T10.heap a1 kc .char (4 : Int32) [(.int c0), (.int c1), (.int c2), (.int c3)] (.int (0 : Int32)) := (f9.keep K10 (ninS ne3 nin0))
    obtain ⟨_, _, ⟨T42, L42, k42, n42⟩, -, X42, ⟨Lc42, hQ42, l42, y42, z42⟩, st42⟩ := Jvm.LawKit.callS X10 hx (y := (⟨"java/lang/StringUTF16", "toBytes", "([CII)[B"⟩ : MethodName)) hown (mvT hZ (hw _ (own_w 89 rfl))) (mvT hZ (hw _ (own_w 90 rfl))) (mvT hZ (hw _ (own_w 44 rfl))) (mvT hZ (hw _ (own_w 91 rfl))) (by decide) (backOf (W := 0) (rmtoB_4 l Z a0 hw [] a1 kc c0 c1 c2 c3 T10.heap n0 zs13 f40 SA SH SL f41) hZ (hw _ (own_w 91 rfl)) (hw _ (own_w 44 rfl)) (by decide) (by decide)) (g := (mkF m 23 #[.val (.ref a1), .val (.int (0 : Int32)), .val (.int (4 : Int32)), .val (.ref b2), .val (.int (1 : Int32)), .unset] [(.int (4 : Int32)), (.int (0 : Int32)), (.ref a1)])) rfl (by rw [hml]; rfl) (argsL := [(.ref a1), (.int (0 : Int32)), (.int (4 : Int32))]) (rest := []) (lenOf pd_4 rfl) rfl (by show 2 * 0 + _ ≤ _; exact Nat.le_of_eq rfl) (hb hby d7_23) (fun _ _ => ⟨rfl, rfl, (by decide : 1 + 1 ≤ _), (by decide : 4 + 8 ≤ _)⟩)
    dsimp only [Pt.U, Pt.locs, Pt.cells, Pt.slots] at X42 l42 y42 z42 st42 hQ42
    subst l42 y42 z42
    obtain ⟨b43, kb44, rfl, Nq42, K42, g45, g46⟩ := hQ42
    have N42 := Fr.app N10 Nq42
    have ne47 : a1 ≠ b43 := Nat.ne_of_lt (Nat.lt_of_lt_of_le f41.lt g45)
    have ge48 : n0 ≤ b43 := Nat.le_trans zs13 g45
    have sz49 : h0.size ≤ b43 := Nat.le_trans kc14.1 g45
    have zs50 : n0 ≤ T42.heap.size := Nat.le_trans zs13 K42.1
    have kc51 : Keep h0 T42.heap [] := kc14.trans K42 all0
    have pre52 : own_Go p e below S0 (T42.setTop (mkF m 32 #[.val (.ref a1), .val (.int (0 : Int32)), .val (.int (4 : Int32)), .val (.ref b2), .val (.int (1 : Int32)), .val (.ref b43)] [(.int (1 : Int32)), (.ref b43)])) := by
      intro t kt
      refine pre39 t ?_
      refine st42 _ ?_
      show Steps p.tables e below (T42.setTop (mkF m 26 #[.val (.ref a1), .val (.int (0 : Int32)), .val (.int (4 : Int32)), .val (.ref b2), .val (.int (1 : Int32)), .unset] [(.ref b43)])) _
      refine XS.astore X42.here hx rfl (hb hby d7_26) rfl rfl (l' := #[.val (.ref a1), .val (.int (0 : Int32)), .val (.int (4 : Int32)), .val (.ref b2), .val (.int (1 : Int32)), .val (.ref b43)]) rfl ?_
      show Steps p.tables e below (T42.setTop (mkF m 28 #[.val (.ref a1), .val (.int (0 : Int32)), .val (.int (4 : Int32)), .val (.ref b2), .val (.int (1 : Int32)), .val (.ref b43)] [])) _
      refine XS.aload X42.here hx rfl (hb hby d7_28) rfl rfl ?_
      show Steps p.tables e below (T42.setTop (mkF m 30 #[.val (.ref a1), .val (.int (0 : Int32)), .val (.int (4 : Int32)), .val (.ref b2), .val (.int (1 : Int32)), .val (.ref b43)] [(.ref b43)])) _
      refine XS.iload X42.here hx rfl (hb hby d7_30) rfl ?_
      show Steps p.tables e below (T42.setTop (mkF m 32 #[.val (.ref a1), .val (.int (0 : Int32)), .val (.int (4 : Int32)), .val (.ref b2), .val (.int (1 : Int32)), .val (.ref b43)] [(.int (1 : Int32)), (.ref b43)])) _
      exact kt
    have f53 : Old Z n0 T42.heap := (f40.keep K42 all0)
    obtain ⟨_, _, ⟨T54, L54, k54, n54⟩, -, X54, ⟨Lc54, hQ54, l54, y54, z54⟩, st54⟩ := Jvm.LawKit.callS X42 hx (y := (⟨"java/lang/StringUTF16", "getChar", "([BI)C"⟩ : MethodName)) hown (mvT hZ (hw _ (own_w 105 rfl))) (mvT hZ (hw _ (own_w 106 rfl))) (mvT hZ (hw _ (own_w 44 rfl))) (mvT hZ (hw _ (own_w 107 rfl))) (by decide) (backOf (W := 0) (rmgetc_1_8 l Z a0 hw [] b43 kb44 (nar .byte ((c1 >>> ((0 : Int32) &&& 31)).toInt8.toInt32)) (nar .byte ((c1 >>> ((8 : Int32) &&& 31)).toInt8.toInt32)) (.int (nar .byte ((c0 >>> ((0 : Int32) &&& 31)).toInt8.toInt32))) (.int (nar .byte ((c0 >>> ((8 : Int32) &&& 31)).toInt8.toInt32))) (.int (nar .byte ((c2 >>> ((0 : Int32) &&& 31)).toInt8.toInt32))) (.int (nar .byte ((c2 >>> ((8 : Int32) &&& 31)).toInt8.toInt32))) (.int (nar .byte ((c3 >>> ((0 : Int32) &&& 31)).toInt8.toInt32))) (.int (nar .byte ((c3 >>> ((8 : Int32) &&& 31)).toInt8.toInt32))) T42.heap n0 zs50 f53 SA SH SL g46) hZ (hw _ (own_w 107 rfl)) (hw _ (own_w 44 rfl)) (by decide) (by decide)) (g := (mkF m 32 #[.val (.ref a1), .val (.int (0 : Int32)), .val (.int (4 : Int32)), .val (.ref b2), .val (.int (1 : Int32)), .val (.ref b43)] [(.int (1 : Int32)), (.ref b43)])) rfl (by rw [hml]; rfl) (argsL := [(.ref b43), (.int (1 : Int32))]) (rest := []) (lenOf pd_5 rfl) rfl (by show 2 * 0 + _ ≤ _; exact Nat.le_of_eq rfl) (hb hby d7_32) (fun _ _ => ⟨rfl, rfl, (by decide : 2 + 0 ≤ _), (by decide : 12 + 0 ≤ _)⟩)
    dsimp only [Pt.U, Pt.locs, Pt.cells, Pt.slots] at X54 l54 y54 z54 st54 hQ54
    subst l54 y54 z54
    obtain ⟨rfl, Nq54, eq54⟩ := hQ54
    have N54 := Fr.app N42 Nq54
    have pre55 : own_Go p e below S0 (T54.setTop (mkF m 35 #[.val (.ref a1), .val (.int (0 : Int32)), .val (.int (4 : Int32)), .val (.ref b2), .val (.int (1 : Int32)), .val (.ref b43)] [(.int (own_gc (nar .byte ((c1 >>> ((0 : Int32) &&& 31)).toInt8.toInt32)) (nar .byte ((c1 >>> ((8 : Int32) &&& 31)).toInt8.toInt32))))])) := by
      intro t kt
      refine pre52 t ?_
      refine st54 _ ?_
      show Steps p.tables e below (T54.setTop (mkF m 35 #[.val (.ref a1), .val (.int (0 : Int32)), .val (.int (4 : Int32)), .val (.ref b2), .val (.int (1 : Int32)), .val (.ref b43)] [(.int (own_gc (nar .byte ((c1 >>> ((0 : Int32) &&& 31)).toInt8.toInt32)) (nar .byte ((c1 >>> ((8 : Int32) &&& 31)).toInt8.toInt32))))])) _
      exact kt
    have pre56 : own_Go p e below S0 (T54.setTop (mkF m 35 #[.val (.ref a1), .val (.int (0 : Int32)), .val (.int (4 : Int32)), .val (.ref b2), .val (.int (1 : Int32)), .val (.ref b43)] [(.int c1)])) := by
      intro t kt
      refine pre55 t ?_
      rw [own_utfget c1 (own_fitAt VC 1 (by decide) rfl)]
      exact kt
    have pre57 : own_Go p e below S0 (T54.setTop (mkF m 56 #[.val (.ref a1), .val (.int (0 : Int32)), .val (.int (4 : Int32)), .val (.ref b2), .val (.int (1 : Int32)), .val (.ref b43)] [(.ref b43)])) := by
      intro t kt
      refine pre56 t ?_
      refine XS.sipush X54.here hx rfl (hb hby d7_35) ?_
      show Steps p.tables e below (T54.setTop (mkF m 38 #[.val (.ref a1), .val (.int (0 : Int32)), .val (.int (4 : Int32)), .val (.ref b2), .val (.int (1 : Int32)), .val (.ref b43)] [(.int (255 : Int32)), (.int c1)])) _
      refine XS.icmpYes X54.here hx rfl (pc0 := 38) (pc' := 54) rfl (hb hby d7_38) rfl (tlt hg).2.2.1 (by decide) (by decide) ?_
      show Steps p.tables e below (T54.setTop (mkF m 54 #[.val (.ref a1), .val (.int (0 : Int32)), .val (.int (4 : Int32)), .val (.ref b2), .val (.int (1 : Int32)), .val (.ref b43)] [])) _
      refine XS.aload X54.here hx rfl (hb hby d7_54) rfl rfl ?_
      show Steps p.tables e below (T54.setTop (mkF m 56 #[.val (.ref a1), .val (.int (0 : Int32)), .val (.int (4 : Int32)), .val (.ref b2), .val (.int (1 : Int32)), .val (.ref b43)] [(.ref b43)])) _
      exact kt
    obtain ⟨fs, hr, hrun, hended, hW, hsame⟩ := X54.leave (v := some (.ref b43)) (fun h => by rw [Bd.returns] at h; cases h)
    refine ⟨_, _, fin _ (pre57 _ ?_), hrun, hended, _, _, rfl, ?_, ⟨_, rfl⟩, hW, hsame.mono (by decide) (by decide)⟩
    · jvm_step X54.here [X54.here.top, hx, (hb hby d7_56), X54.method', Bd.returns, Value.isRef, FieldType.isReference]
      first | (intro acts; rw [hr _ acts rfl rfl rfl]) | rw [hr _ _ rfl rfl rfl]
      exact Steps.refl _
    · show Qcmp3_4 Z a1 kc c0 c1 c2 c3 h0 n0 _ T54.heap _
      rw [eq54]
      exact ⟨b43, kb44, rfl, N54, kc51, sz49, (Or.inr ⟨⟨own_fitAt VC 0 (by decide) rfl, ⟨own_fitAt VC 1 (by decide) rfl, ⟨own_fitAt VC 2 (by decide) rfl, ⟨own_fitAt VC 3 (by decide) rfl, trivial⟩⟩⟩⟩, g46⟩)⟩
  · have pre58 : own_Go p e below S0 (T10.setTop (mkF m 12 #[.val (.ref a1), .val (.int (0 : Int32)), .val (.int (4 : Int32)), .val (.ref b2), .unset, .unset] [(.int (2 : Int32))])) := by
      intro t kt
      refine pre15 t ?_
      rw [hr]
      exact kt
    have pre59 : own_Go p e below S0 (T10.setTop (mkF m 23 #[.val (.ref a1), .val (.int (0 : Int32)), .val (.int (4 : Int32)), .val (.ref b2), .val (.int (2 : Int32)), .unset] [(.int (4 : Int32)), (.int (0 : Int32)), (.ref a1)])) := by
      intro t kt
      refine pre58 t ?_
      refine XS.istore X10.here hx rfl (hb hby d7_12) rfl (l' := #[.val (.ref a1), .val (.int (0 : Int32)), .val (.int (4 : Int32)), .val (.ref b2), .val (.int (2 : Int32)), .unset]) rfl ?_
      show Steps p.tables e below (T10.setTop (mkF m 14 #[.val (.ref a1), .val (.int (0 : Int32)), .val (.int (4 : Int32)), .val (.ref b2), .val (.int (2 : Int32)), .unset] [])) _
      refine XS.iload X10.here hx rfl (hb hby d7_14) rfl ?_
      show Steps p.tables e below (T10.setTop (mkF m 16 #[.val (.ref a1), .val (.int (0 : Int32)), .val (.int (4 : Int32)), .val (.ref b2), .val (.int (2 : Int32)), .unset] [(.int (2 : Int32))])) _
      refine XS.iloadN X10.here hx rfl (hb hby d7_16) rfl ?_
      show Steps p.tables e below (T10.setTop (mkF m 17 #[.val (.ref a1), .val (.int (0 : Int32)), .val (.int (4 : Int32)), .val (.ref b2), .val (.int (2 : Int32)), .unset] [(.int (4 : Int32)), (.int (2 : Int32))])) _
      refine XS.icmpNo X10.here hx rfl (hb hby d7_17) rfl (feq (by decide : ¬ ((2 : Int32) = (4 : Int32)))).1 ?_
      show Steps p.tables e below (T10.setTop (mkF m 20 #[.val (.ref a1), .val (.int (0 : Int32)), .val (.int (4 : Int32)), .val (.ref b2), .val (.int (2 : Int32)), .unset] [])) _
      refine XS.aloadN X10.here hx rfl (hb hby d7_20) rfl rfl ?_
      show Steps p.tables e below (T10.setTop (mkF m 21 #[.val (.ref a1), .val (.int (0 : Int32)), .val (.int (4 : Int32)), .val (.ref b2), .val (.int (2 : Int32)), .unset] [(.ref a1)])) _
      refine XS.iloadN X10.here hx rfl (hb hby d7_21) rfl ?_
      show Steps p.tables e below (T10.setTop (mkF m 22 #[.val (.ref a1), .val (.int (0 : Int32)), .val (.int (4 : Int32)), .val (.ref b2), .val (.int (2 : Int32)), .unset] [(.int (0 : Int32)), (.ref a1)])) _
      refine XS.iloadN X10.here hx rfl (hb hby d7_22) rfl ?_
      show Steps p.tables e below (T10.setTop (mkF m 23 #[.val (.ref a1), .val (.int (0 : Int32)), .val (.int (4 : Int32)), .val (.ref b2), .val (.int (2 : Int32)), .unset] [(.int (4 : Int32)), (.int (0 : Int32)), (.ref a1)])) _
      exact kt
    have f60 : Old Z n0 T10.heap := ((O0.ext E2).keep K10 (allS ge4 all0))
    have f61 : Arv Z T10.heap a1 kc .char (4 : Int32) [(.int c0), (.int c1), (.int c2), (.int c3)] (.int (0 : Int32)) := (f9.keep K10 (ninS ne3 nin0))
    obtain ⟨_, _, ⟨T62, L62, k62, n62⟩, -, X62, ⟨Lc62, hQ62, l62, y62, z62⟩, st62⟩ := Jvm.LawKit.callS X10 hx (y := (⟨"java/lang/StringUTF16", "toBytes", "([CII)[B"⟩ : MethodName)) hown (mvT hZ (hw _ (own_w 89 rfl))) (mvT hZ (hw _ (own_w 90 rfl))) (mvT hZ (hw _ (own_w 44 rfl))) (mvT hZ (hw _ (own_w 91 rfl))) (by decide) (backOf (W := 0) (rmtoB_4 l Z a0 hw [] a1 kc c0 c1 c2 c3 T10.heap n0 zs13 f60 SA SH SL f61) hZ (hw _ (own_w 91 rfl)) (hw _ (own_w 44 rfl)) (by decide) (by decide)) (g := (mkF m 23 #[.val (.ref a1), .val (.int (0 : Int32)), .val (.int (4 : Int32)), .val (.ref b2), .val (.int (2 : Int32)), .unset] [(.int (4 : Int32)), (.int (0 : Int32)), (.ref a1)])) rfl (by rw [hml]; rfl) (argsL := [(.ref a1), (.int (0 : Int32)), (.int (4 : Int32))]) (rest := []) (lenOf pd_4 rfl) rfl (by show 2 * 0 + _ ≤ _; exact Nat.le_of_eq rfl) (hb hby d7_23) (fun _ _ => ⟨rfl, rfl, (by decide : 1 + 1 ≤ _), (by decide : 4 + 8 ≤ _)⟩)
    dsimp only [Pt.U, Pt.locs, Pt.cells, Pt.slots] at X62 l62 y62 z62 st62 hQ62
    subst l62 y62 z62
    obtain ⟨b63, kb64, rfl, Nq62, K62, g65, g66⟩ := hQ62
    have N62 := Fr.app N10 Nq62
    have ne67 : a1 ≠ b63 := Nat.ne_of_lt (Nat.lt_of_lt_of_le f61.lt g65)
    have ge68 : n0 ≤ b63 := Nat.le_trans zs13 g65
    have sz69 : h0.size ≤ b63 := Nat.le_trans kc14.1 g65
    have zs70 : n0 ≤ T62.heap.size := Nat.le_trans zs13 K62.1
    have kc71 : Keep h0 T62.heap [] := kc14.trans K62 all0
    have pre72 : own_Go p e below S0 (T62.setTop (mkF m 32 #[.val (.ref a1), .val (.int (0 : Int32)), .val (.int (4 : Int32)), .val (.ref b2), .val (.int (2 : Int32)), .val (.ref b63)] [(.int (2 : Int32)), (.ref b63)])) := by
      intro t kt
      refine pre59 t ?_
      refine st62 _ ?_
      show Steps p.tables e below (T62.setTop (mkF m 26 #[.val (.ref a1), .val (.int (0 : Int32)), .val (.int (4 : Int32)), .val (.ref b2), .val (.int (2 : Int32)), .unset] [(.ref b63)])) _
      refine XS.astore X62.here hx rfl (hb hby d7_26) rfl rfl (l' := #[.val (.ref a1), .val (.int (0 : Int32)), .val (.int (4 : Int32)), .val (.ref b2), .val (.int (2 : Int32)), .val (.ref b63)]) rfl ?_
      show Steps p.tables e below (T62.setTop (mkF m 28 #[.val (.ref a1), .val (.int (0 : Int32)), .val (.int (4 : Int32)), .val (.ref b2), .val (.int (2 : Int32)), .val (.ref b63)] [])) _
      refine XS.aload X62.here hx rfl (hb hby d7_28) rfl rfl ?_
      show Steps p.tables e below (T62.setTop (mkF m 30 #[.val (.ref a1), .val (.int (0 : Int32)), .val (.int (4 : Int32)), .val (.ref b2), .val (.int (2 : Int32)), .val (.ref b63)] [(.ref b63)])) _
      refine XS.iload X62.here hx rfl (hb hby d7_30) rfl ?_
      show Steps p.tables e below (T62.setTop (mkF m 32 #[.val (.ref a1), .val (.int (0 : Int32)), .val (.int (4 : Int32)), .val (.ref b2), .val (.int (2 : Int32)), .val (.ref b63)] [(.int (2 : Int32)), (.ref b63)])) _
      exact kt
    have f73 : Old Z n0 T62.heap := (f60.keep K62 all0)
    obtain ⟨_, _, ⟨T74, L74, k74, n74⟩, -, X74, ⟨Lc74, hQ74, l74, y74, z74⟩, st74⟩ := Jvm.LawKit.callS X62 hx (y := (⟨"java/lang/StringUTF16", "getChar", "([BI)C"⟩ : MethodName)) hown (mvT hZ (hw _ (own_w 105 rfl))) (mvT hZ (hw _ (own_w 106 rfl))) (mvT hZ (hw _ (own_w 44 rfl))) (mvT hZ (hw _ (own_w 107 rfl))) (by decide) (backOf (W := 0) (rmgetc_2_8 l Z a0 hw [] b63 kb64 (nar .byte ((c2 >>> ((0 : Int32) &&& 31)).toInt8.toInt32)) (nar .byte ((c2 >>> ((8 : Int32) &&& 31)).toInt8.toInt32)) (.int (nar .byte ((c0 >>> ((0 : Int32) &&& 31)).toInt8.toInt32))) (.int (nar .byte ((c0 >>> ((8 : Int32) &&& 31)).toInt8.toInt32))) (.int (nar .byte ((c1 >>> ((0 : Int32) &&& 31)).toInt8.toInt32))) (.int (nar .byte ((c1 >>> ((8 : Int32) &&& 31)).toInt8.toInt32))) (.int (nar .byte ((c3 >>> ((0 : Int32) &&& 31)).toInt8.toInt32))) (.int (nar .byte ((c3 >>> ((8 : Int32) &&& 31)).toInt8.toInt32))) T62.heap n0 zs70 f73 SA SH SL g66) hZ (hw _ (own_w 107 rfl)) (hw _ (own_w 44 rfl)) (by decide) (by decide)) (g := (mkF m 32 #[.val (.ref a1), .val (.int (0 : Int32)), .val (.int (4 : Int32)), .val (.ref b2), .val (.int (2 : Int32)), .val (.ref b63)] [(.int (2 : Int32)), (.ref b63)])) rfl (by rw [hml]; rfl) (argsL := [(.ref b63), (.int (2 : Int32))]) (rest := []) (lenOf pd_5 rfl) rfl (by show 2 * 0 + _ ≤ _; exact Nat.le_of_eq rfl) (hb hby d7_32) (fun _ _ => ⟨rfl, rfl, (by decide : 2 + 0 ≤ _), (by decide : 12 + 0 ≤ _)⟩)
    dsimp only [Pt.U, Pt.locs, Pt.cells, Pt.slots] at X74 l74 y74 z74 st74 hQ74
    subst l74 y74 z74
    obtain ⟨rfl, Nq74, eq74⟩ := hQ74
    have N74 := Fr.app N62 Nq74
    have pre75 : own_Go p e below S0 (T74.setTop (mkF m 35 #[.val (.ref a1), .val (.int (0 : Int32)), .val (.int (4 : Int32)), .val (.ref b2), .val (.int (2 : Int32)), .val (.ref b63)] [(.int (own_gc (nar .byte ((c2 >>> ((0 : Int32) &&& 31)).toInt8.toInt32)) (nar .byte ((c2 >>> ((8 : Int32) &&& 31)).toInt8.toInt32))))])) := by
      intro t kt
      refine pre72 t ?_
      refine st74 _ ?_
      show Steps p.tables e below (T74.setTop (mkF m 35 #[.val (.ref a1), .val (.int (0 : Int32)), .val (.int (4 : Int32)), .val (.ref b2), .val (.int (2 : Int32)), .val (.ref b63)] [(.int (own_gc (nar .byte ((c2 >>> ((0 : Int32) &&& 31)).toInt8.toInt32)) (nar .byte ((c2 >>> ((8 : Int32) &&& 31)).toInt8.toInt32))))])) _
      exact kt
    have pre76 : own_Go p e below S0 (T74.setTop (mkF m 35 #[.val (.ref a1), .val (.int (0 : Int32)), .val (.int (4 : Int32)), .val (.ref b2), .val (.int (2 : Int32)), .val (.ref b63)] [(.int c2)])) := by
      intro t kt
      refine pre75 t ?_
      rw [own_utfget c2 (own_fitAt VC 2 (by decide) rfl)]
      exact kt
    have pre77 : own_Go p e below S0 (T74.setTop (mkF m 56 #[.val (.ref a1), .val (.int (0 : Int32)), .val (.int (4 : Int32)), .val (.ref b2), .val (.int (2 : Int32)), .val (.ref b63)] [(.ref b63)])) := by
      intro t kt
      refine pre76 t ?_
      refine XS.sipush X74.here hx rfl (hb hby d7_35) ?_
      show Steps p.tables e below (T74.setTop (mkF m 38 #[.val (.ref a1), .val (.int (0 : Int32)), .val (.int (4 : Int32)), .val (.ref b2), .val (.int (2 : Int32)), .val (.ref b63)] [(.int (255 : Int32)), (.int c2)])) _
      refine XS.icmpYes X74.here hx rfl (pc0 := 38) (pc' := 54) rfl (hb hby d7_38) rfl (tlt hg).2.2.1 (by decide) (by decide) ?_
      show Steps p.tables e below (T74.setTop (mkF m 54 #[.val (.ref a1), .val (.int (0 : Int32)), .val (.int (4 : Int32)), .val (.ref b2), .val (.int (2 : Int32)), .val (.ref b63)] [])) _
      refine XS.aload X74.here hx rfl (hb hby d7_54) rfl rfl ?_
      show Steps p.tables e below (T74.setTop (mkF m 56 #[.val (.ref a1), .val (.int (0 : Int32)), .val (.int (4 : Int32)), .val (.ref b2), .val (.int (2 : Int32)), .val (.ref b63)] [(.ref b63)])) _
      exact kt
    obtain ⟨fs, hr, hrun, hended, hW, hsame⟩ := X74.leave (v := some (.ref b63)) (fun h => by rw [Bd.returns] at h; cases h)
    refine ⟨_, _, fin _ (pre77 _ ?_), hrun, hended, _, _, rfl, ?_, ⟨_, rfl⟩, hW, hsame.mono (by decide) (by decide)⟩
    · jvm_step X74.here [X74.here.top, hx, (hb hby d7_56), X74.method', Bd.returns, Value.isRef, FieldType.isReference]
      first | (intro acts; rw [hr _ acts rfl rfl rfl]) | rw [hr _ _ rfl rfl rfl]
      exact Steps.refl _
    · show Qcmp3_4 Z a1 kc c0 c1 c2 c3 h0 n0 _ T74.heap _
      rw [eq74]
      exact ⟨b63, kb64, rfl, N74, kc71, sz69, (Or.inr ⟨⟨own_fitAt VC 0 (by decide) rfl, ⟨own_fitAt VC 1 (by decide) rfl, ⟨own_fitAt VC 2 (by decide) rfl, ⟨own_fitAt VC 3 (by decide) rfl, trivial⟩⟩⟩⟩, g66⟩)⟩
  · have pre78 : own_Go p e below S0 (T10.setTop (mkF m 12 #[.val (.ref a1), .val (.int (0 : Int32)), .val (.int (4 : Int32)), .val (.ref b2), .unset, .unset] [(.int (3 : Int32))])) := by
      intro t kt
      refine pre15 t ?_
      rw [hr]
      exact kt
    have pre79 : own_Go p e below S0 (T10.setTop (mkF m 23 #[.val (.ref a1), .val (.int (0 : Int32)), .val (.int (4 : Int32)), .val (.ref b2), .val (.int (3 : Int32)), .unset] [(.int (4 : Int32)), (.int (0 : Int32)), (.ref a1)])) := by
      intro t kt
      refine pre78 t ?_
      refine XS.istore X10.here hx rfl (hb hby d7_12) rfl (l' := #[.val (.ref a1), .val (.int (0 : Int32)), .val (.int (4 : Int32)), .val (.ref b2), .val (.int (3 : Int32)), .unset]) rfl ?_
      show Steps p.tables e below (T10.setTop (mkF m 14 #[.val (.ref a1), .val (.int (0 : Int32)), .val (.int (4 : Int32)), .val (.ref b2), .val (.int (3 : Int32)), .unset] [])) _
      refine XS.iload X10.here hx rfl (hb hby d7_14) rfl ?_
      show Steps p.tables e below (T10.setTop (mkF m 16 #[.val (.ref a1), .val (.int (0 : Int32)), .val (.int (4 : Int32)), .val (.ref b2), .val (.int (3 : Int32)), .unset] [(.int (3 : Int32))])) _
      refine XS.iloadN X10.here hx rfl (hb hby d7_16) rfl ?_
      show Steps p.tables e below (T10.setTop (mkF m 17 #[.val (.ref a1), .val (.int (0 : Int32)), .val (.int (4 : Int32)), .val (.ref b2), .val (.int (3 : Int32)), .unset] [(.int (4 : Int32)), (.int (3 : Int32))])) _
      refine XS.icmpNo X10.here hx rfl (hb hby d7_17) rfl (feq (by decide : ¬ ((3 : Int32) = (4 : Int32)))).1 ?_
      show Steps p.tables e below (T10.setTop (mkF m 20 #[.val (.ref a1), .val (.int (0 : Int32)), .val (.int (4 : Int32)), .val (.ref b2), .val (.int (3 : Int32)), .unset] [])) _
      refine XS.aloadN X10.here hx rfl (hb hby d7_20) rfl rfl ?_
      show Steps p.tables e below (T10.setTop (mkF m 21 #[.val (.ref a1), .val (.int (0 : Int32)), .val (.int (4 : Int32)), .val (.ref b2), .val (.int (3 : Int32)), .unset] [(.ref a1)])) _
      refine XS.iloadN X10.here hx rfl (hb hby d7_21) rfl ?_
      show Steps p.tables e below (T10.setTop (mkF m 22 #[.val (.ref a1), .val (.int (0 : Int32)), .val (.int (4 : Int32)), .val (.ref b2), .val (.int (3 : Int32)), .unset] [(.int (0 : Int32)), (.ref a1)])) _
      refine XS.iloadN X10.here hx rfl (hb hby d7_22) rfl ?_
      show Steps p.tables e below (T10.setTop (mkF m 23 #[.val (.ref a1), .val (.int (0 : Int32)), .val (.int (4 : Int32)), .val (.ref b2), .val (.int (3 : Int32)), .unset] [(.int (4 : Int32)), (.int (0 : Int32)), (.ref a1)])) _
      exact kt
    have f80 : Old Z n0 T10.heap := ((O0.ext E2).keep K10 (allS ge4 all0))
    have f81 : Arv Z T10.heap a1 kc .char (4 : Int32) [(.int c0), (.int c1), (.int c2), (.int c3)] (.int (0 : Int32)) := (f9.keep K10 (ninS ne3 nin0))
    obtain ⟨_, _, ⟨T82, L82, k82, n82⟩, -, X82, ⟨Lc82, hQ82, l82, y82, z82⟩, st82⟩ := Jvm.LawKit.callS X10 hx (y := (⟨"java/lang/StringUTF16", "toBytes", "([CII)[B"⟩ : MethodName)) hown (mvT hZ (hw _ (own_w 89 rfl))) (mvT hZ (hw _ (own_w 90 rfl))) (mvT hZ (hw _ (own_w 44 rfl))) (mvT hZ (hw _ (own_w 91 rfl))) (by decide) (backOf (W := 0) (rmtoB_4 l Z a0 hw [] a1 kc c0 c1 c2 c3 T10.heap n0 zs13 f80 SA SH SL f81) hZ (hw _ (own_w 91 rfl)) (hw _ (own_w 44 rfl)) (by decide) (by decide)) (g := (mkF m 23 #[.val (.ref a1), .val (.int (0 : Int32)), .val (.int (4 : Int32)), .val (.ref b2), .val (.int (3 : Int32)), .unset] [(.int (4 : Int32)), (.int (0 : Int32)), (.ref a1)])) rfl (by rw [hml]; rfl) (argsL := [(.ref a1), (.int (0 : Int32)), (.int (4 : Int32))]) (rest := []) (lenOf pd_4 rfl) rfl (by show 2 * 0 + _ ≤ _; exact Nat.le_of_eq rfl) (hb hby d7_23) (fun _ _ => ⟨rfl, rfl, (by decide : 1 + 1 ≤ _), (by decide : 4 + 8 ≤ _)⟩)
    dsimp only [Pt.U, Pt.locs, Pt.cells, Pt.slots] at X82 l82 y82 z82 st82 hQ82
    subst l82 y82 z82
    obtain ⟨b83, kb84, rfl, Nq82, K82, g85, g86⟩ := hQ82
    have N82 := Fr.app N10 Nq82
    have ne87 : a1 ≠ b83 := Nat.ne_of_lt (Nat.lt_of_lt_of_le f81.lt g85)
    have ge88 : n0 ≤ b83 := Nat.le_trans zs13 g85
    have sz89 : h0.size ≤ b83 := Nat.le_trans kc14.1 g85
    have zs90 : n0 ≤ T82.heap.size := Nat.le_trans zs13 K82.1
    have kc91 : Keep h0 T82.heap [] := kc14.trans K82 all0
    have pre92 : own_Go p e below S0 (T82.setTop (mkF m 32 #[.val (.ref a1), .val (.int (0 : Int32)), .val (.int (4 : Int32)), .val (.ref b2), .val (.int (3 : Int32)), .val (.ref b83)] [(.int (3 : Int32)), (.ref b83)])) := by
      intro t kt
      refine pre79 t ?_
      refine st82 _ ?_
      show Steps p.tables e below (T82.setTop (mkF m 26 #[.val (.ref a1), .val (.int (0 : Int32)), .val (.int (4 : Int32)), .val (.ref b2), .val (.int (3 : Int32)), .unset] [(.ref b83)])) _
      refine XS.astore X82.here hx rfl (hb hby d7_26) rfl rfl (l' := #[.val (.ref a1), .val (.int (0 : Int32)), .val (.int (4 : Int32)), .val (.ref b2), .val (.int (3 : Int32)), .val (.ref b83)]) rfl ?_
      show Steps p.tables e below (T82.setTop (mkF m 28 #[.val (.ref a1), .val (.int (0 : Int32)), .val (.int (4 : Int32)), .val (.ref b2), .val (.int (3 : Int32)), .val (.ref b83)] [])) _
      refine XS.aload X82.here hx rfl (hb hby d7_28) rfl rfl ?_
      show Steps p.tables e below (T82.setTop (mkF m 30 #[.val (.ref a1), .val (.int (0 : Int32)), .val (.int (4 : Int32)), .val (.ref b2), .val (.int (3 : Int32)), .val (.ref b83)] [(.ref b83)])) _
      refine XS.iload X82.here hx rfl (hb hby d7_30) rfl ?_
      show Steps p.tables e below (T82.setTop (mkF m 32 #[.val (.ref a1), .val (.int (0 : Int32)), .val (.int (4 : Int32)), .val (.ref b2), .val (.int (3 : Int32)), .val (.ref b83)] [(.int (3 : Int32)), (.ref b83)])) _
      exact kt
    have f93 : Old Z n0 T82.heap := (f80.keep K82 all0)
    obtain ⟨_, _, ⟨T94, L94, k94, n94⟩, -, X94, ⟨Lc94, hQ94, l94, y94, z94⟩, st94⟩ := Jvm.LawKit.callS X82 hx (y := (⟨"java/lang/StringUTF16", "getChar", "([BI)C"⟩ : MethodName)) hown (mvT hZ (hw _ (own_w 105 rfl))) (mvT hZ (hw _ (own_w 106 rfl))) (mvT hZ (hw _ (own_w 44 rfl))) (mvT hZ (hw _ (own_w 107 rfl))) (by decide) (backOf (W := 0) (rmgetc_3_8 l Z a0 hw [] b83 kb84 (nar .byte ((c3 >>> ((0 : Int32) &&& 31)).toInt8.toInt32)) (nar .byte ((c3 >>> ((8 : Int32) &&& 31)).toInt8.toInt32)) (.int (nar .byte ((c0 >>> ((0 : Int32) &&& 31)).toInt8.toInt32))) (.int (nar .byte ((c0 >>> ((8 : Int32) &&& 31)).toInt8.toInt32))) (.int (nar .byte ((c1 >>> ((0 : Int32) &&& 31)).toInt8.toInt32))) (.int (nar .byte ((c1 >>> ((8 : Int32) &&& 31)).toInt8.toInt32))) (.int (nar .byte ((c2 >>> ((0 : Int32) &&& 31)).toInt8.toInt32))) (.int (nar .byte ((c2 >>> ((8 : Int32) &&& 31)).toInt8.toInt32))) T82.heap n0 zs90 f93 SA SH SL g86) hZ (hw _ (own_w 107 rfl)) (hw _ (own_w 44 rfl)) (by decide) (by decide)) (g := (mkF m 32 #[.val (.ref a1), .val (.int (0 : Int32)), .val (.int (4 : Int32)), .val (.ref b2), .val (.int (3 : Int32)), .val (.ref b83)] [(.int (3 : Int32)), (.ref b83)])) rfl (by rw [hml]; rfl) (argsL := [(.ref b83), (.int (3 : Int32))]) (rest := []) (lenOf pd_5 rfl) rfl (by show 2 * 0 + _ ≤ _; exact Nat.le_of_eq rfl) (hb hby d7_32) (fun _ _ => ⟨rfl, rfl, (by decide : 2 + 0 ≤ _), (by decide : 12 + 0 ≤ _)⟩)
    dsimp only [Pt.U, Pt.locs, Pt.cells, Pt.slots] at X94 l94 y94 z94 st94 hQ94
    subst l94 y94 z94
    obtain ⟨rfl, Nq94, eq94⟩ := hQ94
    have N94 := Fr.app N82 Nq94
    have pre95 : own_Go p e below S0 (T94.setTop (mkF m 35 #[.val (.ref a1), .val (.int (0 : Int32)), .val (.int (4 : Int32)), .val (.ref b2), .val (.int (3 : Int32)), .val (.ref b83)] [(.int (own_gc (nar .byte ((c3 >>> ((0 : Int32) &&& 31)).toInt8.toInt32)) (nar .byte ((c3 >>> ((8 : Int32) &&& 31)).toInt8.toInt32))))])) := by
      intro t kt
      refine pre92 t ?_
      refine st94 _ ?_
      show Steps p.tables e below (T94.setTop (mkF m 35 #[.val (.ref a1), .val (.int (0 : Int32)), .val (.int (4 : Int32)), .val (.ref b2), .val (.int (3 : Int32)), .val (.ref b83)] [(.int (own_gc (nar .byte ((c3 >>> ((0 : Int32) &&& 31)).toInt8.toInt32)) (nar .byte ((c3 >>> ((8 : Int32) &&& 31)).toInt8.toInt32))))])) _
      exact kt
    have pre96 : own_Go p e below S0 (T94.setTop (mkF m 35 #[.val (.ref a1), .val (.int (0 : Int32)), .val (.int (4 : Int32)), .val (.ref b2), .val (.int (3 : Int32)), .val (.ref b83)] [(.int c3)])) := by
      intro t kt
      refine pre95 t ?_
      rw [own_utfget c3 (own_fitAt VC 3 (by decide) rfl)]
      exact kt
    have pre97 : own_Go p e below S0 (T94.setTop (mkF m 56 #[.val (.ref a1), .val (.int (0 : Int32)), .val (.int (4 : Int32)), .val (.ref b2), .val (.int (3 : Int32)), .val (.ref b83)] [(.ref b83)])) := by
      intro t kt
      refine pre96 t ?_
      refine XS.sipush X94.here hx rfl (hb hby d7_35) ?_
      show Steps p.tables e below (T94.setTop (mkF m 38 #[.val (.ref a1), .val (.int (0 : Int32)), .val (.int (4 : Int32)), .val (.ref b2), .val (.int (3 : Int32)), .val (.ref b83)] [(.int (255 : Int32)), (.int c3)])) _
      refine XS.icmpYes X94.here hx rfl (pc0 := 38) (pc' := 54) rfl (hb hby d7_38) rfl (tlt hg).2.2.1 (by decide) (by decide) ?_
      show Steps p.tables e below (T94.setTop (mkF m 54 #[.val (.ref a1), .val (.int (0 : Int32)), .val (.int (4 : Int32)), .val (.ref b2), .val (.int (3 : Int32)), .val (.ref b83)] [])) _
      refine XS.aload X94.here hx rfl (hb hby d7_54) rfl rfl ?_
      show Steps p.tables e below (T94.setTop (mkF m 56 #[.val (.ref a1), .val (.int (0 : Int32)), .val (.int (4 : Int32)), .val (.ref b2), .val (.int (3 : Int32)), .val (.ref b83)] [(.ref b83)])) _
      exact kt
    obtain ⟨fs, hr, hrun, hended, hW, hsame⟩ := X94.leave (v := some (.ref b83)) (fun h => by rw [Bd.returns] at h; cases h)
    refine ⟨_, _, fin _ (pre97 _ ?_), hrun, hended, _, _, rfl, ?_, ⟨_, rfl⟩, hW, hsame.mono (by decide) (by decide)⟩
    · jvm_step X94.here [X94.here.top, hx, (hb hby d7_56), X94.method', Bd.returns, Value.isRef, FieldType.isReference]
      first | (intro acts; rw [hr _ acts rfl rfl rfl]) | rw [hr _ _ rfl rfl rfl]
      exact Steps.refl _
    · show Qcmp3_4 Z a1 kc c0 c1 c2 c3 h0 n0 _ T94.heap _
      rw [eq94]
      exact ⟨b83, kb84, rfl, N94, kc91, sz89, (Or.inr ⟨⟨own_fitAt VC 0 (by decide) rfl, ⟨own_fitAt VC 1 (by decide) rfl, ⟨own_fitAt VC 2 (by decide) rfl, ⟨own_fitAt VC 3 (by decide) rfl, trivial⟩⟩⟩⟩, g86⟩)⟩

theorem d9_0 : decode jdk_52_method_15_code 0 = .ok (.iload_n 1, 1) := by decide +kernel
theorem d9_1 : decode jdk_52_method_15_code 1 = .ok (.aload_n 0, 1) := by decide +kernel
theorem d9_2 : decode jdk_52_method_15_code 2 = .ok (.arraylength, 1) := by decide +kernel
theorem d9_3 : decode jdk_52_method_15_code 3 = .ok (.isub, 1) := by decide +kernel
theorem d9_4 : decode jdk_52_method_15_code 4 = .ok (.bipush 31, 2) := by decide +kernel
theorem d9_6 : decode jdk_52_method_15_code 6 = .ok (.iushr, 1) := by decide +kernel
theorem d9_7 : decode jdk_52_method_15_code 7 = .ok (.i2b, 1) := by decide +kernel
theorem d9_8 : decode jdk_52_method_15_code 8 = .ok (.ireturn, 1) := by decide +kernel
theorem pn_9 : plainName "java/lang/StringUTF16" = true := by first | (simp [plainName, overriddenIn]; done) | decide +kernel
theorem ef_cofa_4_4 (m : MethodId) (x0 : Addr) : entryFrame m #[(.ref x0), (.int (4 : Int32))] 2 = mkF m 0 #[.val (.ref x0), .val (.int (4 : Int32))] [] := by first | (simp [entryFrame, mkF, argsToLocals, Value.category]; done) | rfl
def Qcofa_4_4 (Z : State) (a1 : Addr) (k1 : ClassId) (vs : List Value) (d1 : Value) (h0 : Heap) (n0 : Nat) (v : Option Value) (h : Heap) (L : List Loc) : Prop := v = (some (.int (0 : Int32))) ∧ Fr n0 L ∧ h = h0
set_option maxRecDepth 65536 in
set_option maxHeartbeats 40000000 in
theorem rmcofa_4_4 (l : Launch) (Z : State) (a0 : Array Value) (hw : ∀ d ∈ tables_1, d.before a0 Z = true) (ws : List Jvm.Cond) (a1 : Addr) (k1 : ClassId) (vs : List Value) (d1 : Value) (h0 : Heap) (n0 : Nat) (Z0 : n0 ≤ h0.size) (V1 : Arv Z h0 a1 k1 .byte (4 : Int32) vs d1) :
    MetFree l (⟨"java/lang/StringUTF16", "coderFromArrayLen", "([BI)B"⟩ : MethodName) (head1 (Jvm.Cond.code (⟨"java/lang/StringUTF16", "coderFromArrayLen", "([BI)B"⟩ : MethodName) jdk_52_method_15_code 2 (some .byte) :: ws) ({ frames := 0, cells := 0, slots := 0, locals := 0 } : Room)) (fun a U => a = #[(.ref a1), (.int (4 : Int32))] ∧ Z.Warmed39 U.vm ∧ U.heap = h0) (fun _ _ _ _ _ => True) (fun _ U o U' => ∃ v L, o = .returned v ∧ Qcofa_4_4 Z a1 k1 vs d1 h0 n0 v U'.heap L ∧ FrameEnd U o U' L ({ frames := 0, cells := 0, slots := 0, locals := 0 } : Room).cells ({ frames := 0, cells := 0, slots := 0, locals := 0 } : Room).slots) := by
  refine MetFree.of_bodySF (plainFor_of_name pn_9) hisR ?_
  intro p e s m args below meth c s₁ Bd hml0 hP hK
  obtain ⟨rfl, hZ, hh⟩ := hP
  have hx := Bd.exec
  have hby := Bd.bytes
  have hml : c.maxLocals = 2 := hml0
  have hown0 := findClass_of_methodNamed Bd.named
  have hown : s.vm.findClass "java/lang/StringUTF16" = some m.cls := hown0
  have hnm := (name_of_methodNamed Bd.named Bd.method).1
  have X0 : Stand p l e ({ frames := 0, cells := 0, slots := 0, locals := 0 } : Room) s m #[(.ref a1), (.int (4 : Int32))] below meth c s₁ [] 0 0 := Stand.of_body Bd
  have e0 : s₁.heap = h0 := by rw [← hh, Bd.state]; rfl
  have N0 := Fr.nil n0
  obtain ⟨S0, hS0⟩ : ∃ z, z = s₁.setTop (entryFrame m #[(.ref a1), (.int (4 : Int32))] 2) := ⟨_, rfl⟩
  have pre0 : own_Go p e below S0 (s₁.setTop (mkF m 0 #[.val (.ref a1), .val (.int (4 : Int32))] [])) := fun t k => by rw [hS0]; exact castTop (ef_cofa_4_4 m a1) k
  have fin : ∀ t, Steps p.tables e below S0 t → Steps p.tables e below (s₁.setTop (entryFrame m #[(.ref a1), (.int (4 : Int32))] 2)) t := fun t k => by rw [hS0] at k; exact k
  have pre1 : own_Go p e below S0 (s₁.setTop (mkF m 2 #[.val (.ref a1), .val (.int (4 : Int32))] [(.ref a1), (.int (4 : Int32))])) := by
    intro t kt
    refine pre0 t ?_
    refine XS.iloadN X0.here hx rfl (hb hby d9_0) rfl ?_
    show Steps p.tables e below (s₁.setTop (mkF m 1 #[.val (.ref a1), .val (.int (4 : Int32))] [(.int (4 : Int32))])) _
    refine XS.aloadN X0.here hx rfl (hb hby d9_1) rfl rfl ?_
    show Steps p.tables e below (s₁.setTop (mkF m 2 #[.val (.ref a1), .val (.int (4 : Int32))] [(.ref a1), (.int (4 : Int32))])) _
    exact kt
  obtain ⟨cl2, Ar2, -, Sz2, Ng2, -, -⟩ := id V1
  have pre3 : own_Go p e below S0 (s₁.setTop (mkF m 8 #[.val (.ref a1), .val (.int (4 : Int32))] [(.int (0 : Int32))])) := by
    intro t kt
    refine pre1 t ?_
    refine X0.arraylength hx (by rw [e0]; exact Ar2.1) (State.isArrayOf_alike hZ.alike Ar2.2.1) (g := (mkF m 2 #[.val (.ref a1), .val (.int (4 : Int32))] [(.ref a1), (.int (4 : Int32))])) rfl rfl (hb hby d9_2) _ ?_
    rw [len_of Sz2 Ng2]
    show Steps p.tables e below (s₁.setTop (mkF m 3 #[.val (.ref a1), .val (.int (4 : Int32))] [(.int (4 : Int32)), (.int (4 : Int32))])) _
    refine XS.isub X0.here hx rfl (hb hby d9_3) rfl ?_
    show Steps p.tables e below (s₁.setTop (mkF m 4 #[.val (.ref a1), .val (.int (4 : Int32))] [(.int (0 : Int32))])) _
    refine XS.bipush X0.here hx rfl (hb hby d9_4) ?_
    show Steps p.tables e below (s₁.setTop (mkF m 6 #[.val (.ref a1), .val (.int (4 : Int32))] [(.int (31 : Int32)), (.int (0 : Int32))])) _
    refine XS.iushr X0.here hx rfl (hb hby d9_6) rfl ?_
    show Steps p.tables e below (s₁.setTop (mkF m 7 #[.val (.ref a1), .val (.int (4 : Int32))] [(.int (0 : Int32))])) _
    refine XS.i2b X0.here hx rfl (hb hby d9_7) rfl ?_
    show Steps p.tables e below (s₁.setTop (mkF m 8 #[.val (.ref a1), .val (.int (4 : Int32))] [(.int (0 : Int32))])) _
    exact kt
  obtain ⟨fs, hr, hrun, hended, hW, hsame⟩ := X0.leave (v := some (.int (0 : Int32))) (fun h => by rw [Bd.returns] at h; cases h)
  refine ⟨_, _, fin _ (pre3 _ ?_), hrun, hended, _, _, rfl, ?_, ⟨_, rfl⟩, hW, hsame.mono (by decide) (by decide)⟩
  · exact retN X0 hx (t := .byte) Bd.returns (by simp) (hb hby d9_8) hr
  · show Qcofa_4_4 Z a1 k1 vs d1 h0 n0 _ s₁.heap _
    rw [e0]
    exact ⟨rfl, N0, rfl⟩

theorem ef_cofa_4_8 (m : MethodId) (x0 : Addr) : entryFrame m #[(.ref x0), (.int (4 : Int32))] 2 = mkF m 0 #[.val (.ref x0), .val (.int (4 : Int32))] [] := by first | (simp [entryFrame, mkF, argsToLocals, Value.category]; done) | rfl
def Qcofa_4_8 (Z : State) (a1 : Addr) (k1 : ClassId) (vs : List Value) (d1 : Value) (h0 : Heap) (n0 : Nat) (v : Option Value) (h : Heap) (L : List Loc) : Prop := v = (some (.int (1 : Int32))) ∧ Fr n0 L ∧ h = h0
set_option maxRecDepth 65536 in
set_option maxHeartbeats 40000000 in
theorem rmcofa_4_8 (l : Launch) (Z : State) (a0 : Array Value) (hw : ∀ d ∈ tables_1, d.before a0 Z = true) (ws : List Jvm.Cond) (a1 : Addr) (k1 : ClassId) (vs : List Value) (d1 : Value) (h0 : Heap) (n0 : Nat) (Z0 : n0 ≤ h0.size) (V1 : Arv Z h0 a1 k1 .byte (8 : Int32) vs d1) :
    MetFree l (⟨"java/lang/StringUTF16", "coderFromArrayLen", "([BI)B"⟩ : MethodName) (head1 (Jvm.Cond.code (⟨"java/lang/StringUTF16", "coderFromArrayLen", "([BI)B"⟩ : MethodName) jdk_52_method_15_code 2 (some .byte) :: ws) ({ frames := 0, cells := 0, slots := 0, locals := 0 } : Room)) (fun a U => a = #[(.ref a1), (.int (4 : Int32))] ∧ Z.Warmed39 U.vm ∧ U.heap = h0) (fun _ _ _ _ _ => True) (fun _ U o U' => ∃ v L, o = .returned v ∧ Qcofa_4_8 Z a1 k1 vs d1 h0 n0 v U'.heap L ∧ FrameEnd U o U' L ({ frames := 0, cells := 0, slots := 0, locals := 0 } : Room).cells ({ frames := 0, cells := 0, slots := 0, locals := 0 } : Room).slots) := by
  refine MetFree.of_bodySF (plainFor_of_name pn_9) hisR ?_
  intro p e s m args below meth c s₁ Bd hml0 hP hK
  obtain ⟨rfl, hZ, hh⟩ := hP
  have hx := Bd.exec
  have hby := Bd.bytes
  have hml : c.maxLocals = 2 := hml0
  have hown0 := findClass_of_methodNamed Bd.named
  have hown : s.vm.findClass "java/lang/StringUTF16" = some m.cls := hown0
  have hnm := (name_of_methodNamed Bd.named Bd.method).1
  have X0 : Stand p l e ({ frames := 0, cells := 0, slots := 0, locals := 0 } : Room) s m #[(.ref a1), (.int (4 : Int32))] below meth c s₁ [] 0 0 := Stand.of_body Bd
  have e0 : s₁.heap = h0 := by rw [← hh, Bd.state]; rfl
  have N0 := Fr.nil n0
  obtain ⟨S0, hS0⟩ : ∃ z, z = s₁.setTop (entryFrame m #[(.ref a1), (.int (4 : Int32))] 2) := ⟨_, rfl⟩
  have pre0 : own_Go p e below S0 (s₁.setTop (mkF m 0 #[.val (.ref a1), .val (.int (4 : Int32))] [])) := fun t k => by rw [hS0]; exact castTop (ef_cofa_4_8 m a1) k
  have fin : ∀ t, Steps p.tables e below S0 t → Steps p.tables e below (s₁.setTop (entryFrame m #[(.ref a1), (.int (4 : Int32))] 2)) t := fun t k => by rw [hS0] at k; exact k
  have pre1 : own_Go p e below S0 (s₁.setTop (mkF m 2 #[.val (.ref a1), .val (.int (4 : Int32))] [(.ref a1), (.int (4 : Int32))])) := by
    intro t kt
    refine pre0 t ?_
    refine XS.iloadN X0.here hx rfl (hb hby d9_0) rfl ?_
    show Steps p.tables e below (s₁.setTop (mkF m 1 #[.val (.ref a1), .val (.int (4 : Int32))] [(.int (4 : Int32))])) _
    refine XS.aloadN X0.here hx rfl (hb hby d9_1) rfl rfl ?_
    show Steps p.tables e below (s₁.setTop (mkF m 2 #[.val (.ref a1), .val (.int (4 : Int32))] [(.ref a1), (.int (4 : Int32))])) _
    exact kt
  obtain ⟨cl2, Ar2, -, Sz2, Ng2, -, -⟩ := id V1
  have pre3 : own_Go p e below S0 (s₁.setTop (mkF m 8 #[.val (.ref a1), .val (.int (4 : Int32))] [(.int (1 : Int32))])) := by
    intro t kt
    refine pre1 t ?_
    refine X0.arraylength hx (by rw [e0]; exact Ar2.1) (State.isArrayOf_alike hZ.alike Ar2.2.1) (g := (mkF m 2 #[.val (.ref a1), .val (.int (4 : Int32))] [(.ref a1), (.int (4 : Int32))])) rfl rfl (hb hby d9_2) _ ?_
    rw [len_of Sz2 Ng2]
    show Steps p.tables e below (s₁.setTop (mkF m 3 #[.val (.ref a1), .val (.int (4 : Int32))] [(.int (8 : Int32)), (.int (4 : Int32))])) _
    refine XS.isub X0.here hx rfl (hb hby d9_3) rfl ?_
    show Steps p.tables e below (s₁.setTop (mkF m 4 #[.val (.ref a1), .val (.int (4 : Int32))] [(.int (-4 : Int32))])) _
    refine XS.bipush X0.here hx rfl (hb hby d9_4) ?_
    show Steps p.tables e below (s₁.setTop (mkF m 6 #[.val (.ref a1), .val (.int (4 : Int32))] [(.int (31 : Int32)), (.int (-4 : Int32))])) _
    refine XS.iushr X0.here hx rfl (hb hby d9_6) rfl ?_
    show Steps p.tables e below (s₁.setTop (mkF m 7 #[.val (.ref a1), .val (.int (4 : Int32))] [(.int (1 : Int32))])) _
    refine XS.i2b X0.here hx rfl (hb hby d9_7) rfl ?_
    show Steps p.tables e below (s₁.setTop (mkF m 8 #[.val (.ref a1), .val (.int (4 : Int32))] [(.int (1 : Int32))])) _
    exact kt
  obtain ⟨fs, hr, hrun, hended, hW, hsame⟩ := X0.leave (v := some (.int (1 : Int32))) (fun h => by rw [Bd.returns] at h; cases h)
  refine ⟨_, _, fin _ (pre3 _ ?_), hrun, hended, _, _, rfl, ?_, ⟨_, rfl⟩, hW, hsame.mono (by decide) (by decide)⟩
  · exact retN X0 hx (t := .byte) Bd.returns (by simp) (hb hby d9_8) hr
  · show Qcofa_4_8 Z a1 k1 vs d1 h0 n0 _ s₁.heap _
    rw [e0]
    exact ⟨rfl, N0, rfl⟩

theorem d6_0 : decode jdk_42_method_149_code 0 = .ok (.aload_n 0, 1) := by decide +kernel
theorem d6_1 : decode jdk_42_method_149_code 1 = .ok (.invokespecial 1, 3) := by decide +kernel
theorem d6_4 : decode jdk_42_method_149_code 4 = .ok (.iload_n 3, 1) := by decide +kernel
theorem d6_5 : decode jdk_42_method_149_code 5 = .ok (.ifCond .ne 22, 3) := by decide +kernel
theorem d6_27 : decode jdk_42_method_149_code 27 = .ok (.getstatic 38, 3) := by decide +kernel
theorem d6_30 : decode jdk_42_method_149_code 30 = .ok (.ifCond .eq 28, 3) := by decide +kernel
theorem d6_33 : decode jdk_42_method_149_code 33 = .ok (.aload_n 1, 1) := by decide +kernel
theorem d6_34 : decode jdk_42_method_149_code 34 = .ok (.iload_n 2, 1) := by decide +kernel
theorem d6_35 : decode jdk_42_method_149_code 35 = .ok (.iload_n 3, 1) := by decide +kernel
theorem d6_36 : decode jdk_42_method_149_code 36 = .ok (.invokestatic 177, 3) := by decide +kernel
theorem d6_39 : decode jdk_42_method_149_code 39 = .ok (.astore 5, 2) := by decide +kernel
theorem d6_41 : decode jdk_42_method_149_code 41 = .ok (.aload_n 0, 1) := by decide +kernel
theorem d6_42 : decode jdk_42_method_149_code 42 = .ok (.aload 5, 2) := by decide +kernel
theorem d6_44 : decode jdk_42_method_149_code 44 = .ok (.iload_n 3, 1) := by decide +kernel
theorem d6_45 : decode jdk_42_method_149_code 45 = .ok (.invokestatic 47, 3) := by decide +kernel
theorem d6_48 : decode jdk_42_method_149_code 48 = .ok (.putfield 15, 3) := by decide +kernel
theorem d6_51 : decode jdk_42_method_149_code 51 = .ok (.aload_n 0, 1) := by decide +kernel
theorem d6_52 : decode jdk_42_method_149_code 52 = .ok (.aload 5, 2) := by decide +kernel
theorem d6_54 : decode jdk_42_method_149_code 54 = .ok (.putfield 9, 3) := by decide +kernel
theorem d6_57 : decode jdk_42_method_149_code 57 = .ok (.return_, 1) := by decide +kernel
theorem pn_6 : plainName "java/lang/String" = true := by first | (simp [plainName, overriddenIn]; done) | decide +kernel
theorem pd_6 : parseMethodDescriptor "([BI)B" = some ⟨[(.array .byte), .int], some .byte⟩ := by decide +kernel
theorem ef_init4_4 (m : MethodId) (x0 : Addr) (x1 : Addr) : entryFrame m #[(.ref x0), (.ref x1), (.int (0 : Int32)), (.int (4 : Int32)), .null] 6 = mkF m 0 #[.val (.ref x0), .val (.ref x1), .val (.int (0 : Int32)), .val (.int (4 : Int32)), .val .null, .unset] [] := by first | (simp [entryFrame, mkF, argsToLocals, Value.category]; done) | rfl
def Qinit4_4 (Z : State) (a1 : Addr) (a2 : Addr) (kc : ClassId) (c0 : Int32) (c1 : Int32) (c2 : Int32) (c3 : Int32) (wC : Int32) (h0 : Heap) (n0 : Nat) (v : Option Value) (h : Heap) (L : List Loc) : Prop := ∃ vb : Addr, ∃ kb : ClassId, v = none ∧ Fr n0 L ∧ Keep h0 h [a1] ∧ h0.size ≤ vb ∧ own_Str Z h a1 vb kb [c0, c1, c2, c3]
set_option maxRecDepth 65536 in
set_option maxHeartbeats 40000000 in
theorem rminit4_4 (l : Launch) (Z : State) (a0 : Array Value) (hw : ∀ d ∈ tables_1, d.before a0 Z = true) (ws : List Jvm.Cond) (a1 : Addr) (a2 : Addr) (kc : ClassId) (c0 : Int32) (c1 : Int32) (c2 : Int32) (c3 : Int32) (wC : Int32) (h0 : Heap) (n0 : Nat) (Z0 : n0 ≤ h0.size) (O0 : Old Z n0 h0) (SC : Sta Z Z.heap "java/lang/String" "COMPACT_STRINGS" "Z" (.int wC)) (hC : (¬ wC = (0 : Int32))) (SA : Sta Z Z.heap "java/lang/StringUTF16" "$assertionsDisabled" "Z" (.int (1 : Int32))) (SH : Sta Z Z.heap "java/lang/StringUTF16" "HI_BYTE_SHIFT" "I" (.int (0 : Int32))) (SL : Sta Z Z.heap "java/lang/StringUTF16" "LO_BYTE_SHIFT" "I" (.int (8 : Int32))) (E1 : Exa Z h0 a1 "java/lang/String") (F1 : Fld Z h0 a1 "java/lang/String" "value" "[B" .null) (F2 : Fld Z h0 a1 "java/lang/String" "coder" "B" (.int (0 : Int32))) (g1 : n0 ≤ a1) (VC : Arv Z h0 a2 kc .char (4 : Int32) [(.int c0), (.int c1), (.int c2), (.int c3)] (.int (0 : Int32))) :
    MetFree l (⟨"java/lang/String", "<init>", "([CIILjava/lang/Void;)V"⟩ : MethodName) (head1 (Jvm.Cond.code (⟨"java/lang/String", "<init>", "([CIILjava/lang/Void;)V"⟩ : MethodName) jdk_42_method_149_code 6 none :: ws) ({ frames := 4, cells := 2, slots := 12, locals := 57 } : Room)) (fun a U => a = #[(.ref a1), (.ref a2), (.int (0 : Int32)), (.int (4 : Int32)), .null] ∧ Z.Warmed39 U.vm ∧ U.heap = h0) (fun _ _ _ _ _ => True) (fun _ U o U' => ∃ v L, o = .returned v ∧ Qinit4_4 Z a1 a2 kc c0 c1 c2 c3 wC h0 n0 v U'.heap L ∧ FrameEnd U o U' L ({ frames := 4, cells := 2, slots := 12, locals := 57 } : Room).cells ({ frames := 4, cells := 2, slots := 12, locals := 57 } : Room).slots) := by
  refine MetFree.of_bodySF (plainFor_of_name pn_6) hisR ?_
  intro p e s m args below meth c s₁ Bd hml0 hP hK
  obtain ⟨rfl, hZ, hh⟩ := hP
  have hx := Bd.exec
  have hby := Bd.bytes
  have hml : c.maxLocals = 6 := hml0
  have hown0 := findClass_of_methodNamed Bd.named
  have hown : s.vm.findClass "java/lang/String" = some m.cls := hown0
  have hnm := (name_of_methodNamed Bd.named Bd.method).1
  have X0 : Stand p l e ({ frames := 4, cells := 2, slots := 12, locals := 57 } : Room) s m #[(.ref a1), (.ref a2), (.int (0 : Int32)), (.int (4 : Int32)), .null] below meth c s₁ [] 0 0 := Stand.of_body Bd
  have e0 : s₁.heap = h0 := by rw [← hh, Bd.state]; rfl
  have N0 := Fr.nil n0
  obtain ⟨S0, hS0⟩ : ∃ z, z = s₁.setTop (entryFrame m #[(.ref a1), (.ref a2), (.int (0 : Int32)), (.int (4 : Int32)), .null] 6) := ⟨_, rfl⟩
  have pre0 : own_Go p e below S0 (s₁.setTop (mkF m 0 #[.val (.ref a1), .val (.ref a2), .val (.int (0 : Int32)), .val (.int (4 : Int32)), .val .null, .unset] [])) := fun t k => by rw [hS0]; exact castTop (ef_init4_4 m a1 a2) k
  have fin : ∀ t, Steps p.tables e below S0 t → Steps p.tables e below (s₁.setTop (entryFrame m #[(.ref a1), (.ref a2), (.int (0 : Int32)), (.int (4 : Int32)), .null] 6)) t := fun t k => by rw [hS0] at k; exact k
  have kc0 : Keep h0 h0 [a1] := Keep.refl _ _
  have pre1 : own_Go p e below S0 (s₁.setTop (mkF m 1 #[.val (.ref a1), .val (.ref a2), .val (.int (0 : Int32)), .val (.int (4 : Int32)), .val .null, .unset] [(.ref a1)])) := by
    intro t kt
    refine pre0 t ?_
    refine XS.aloadN X0.here hx rfl (hb hby d6_0) rfl rfl ?_
    show Steps p.tables e below (s₁.setTop (mkF m 1 #[.val (.ref a1), .val (.ref a2), .val (.int (0 : Int32)), .val (.int (4 : Int32)), .val .null, .unset] [(.ref a1)])) _
    exact kt
  obtain ⟨T2, X2, e2, st2⟩ := initO X0 hx hZ hown (hw _ (own_w 40 rfl)) (hw _ (own_w 12 rfl)) (hw _ (own_w 13 rfl)) e0 (g := (mkF m 1 #[.val (.ref a1), .val (.ref a2), .val (.int (0 : Int32)), .val (.int (4 : Int32)), .val .null, .unset] [(.ref a1)])) rfl (by rw [hml]; rfl) rfl (hb hby d6_1) (by decide) (W := 0) (by show 2 * 0 + _ ≤ _; exact Nat.le_of_eq rfl) (by decide)
  have pre3 : own_Go p e below S0 (T2.setTop (mkF m 27 #[.val (.ref a1), .val (.ref a2), .val (.int (0 : Int32)), .val (.int (4 : Int32)), .val .null, .unset] [])) := by
    intro t kt
    refine pre1 t ?_
    refine st2 _ ?_
    show Steps p.tables e below (T2.setTop (mkF m 4 #[.val (.ref a1), .val (.ref a2), .val (.int (0 : Int32)), .val (.int (4 : Int32)), .val .null, .unset] [])) _
    refine XS.iloadN X2.here hx rfl (hb hby d6_4) rfl ?_
    show Steps p.tables e below (T2.setTop (mkF m 5 #[.val (.ref a1), .val (.ref a2), .val (.int (0 : Int32)), .val (.int (4 : Int32)), .val .null, .unset] [(.int (4 : Int32))])) _
    refine XS.ifYes X2.here hx rfl (pc0 := 5) (pc' := 27) rfl (hb hby d6_5) rfl ((if0 _ _).trans (feq (by decide : ¬ ((4 : Int32) = (0 : Int32)))).2) (by decide) (by decide) ?_
    show Steps p.tables e below (T2.setTop (mkF m 27 #[.val (.ref a1), .val (.ref a2), .val (.int (0 : Int32)), .val (.int (4 : Int32)), .val .null, .unset] [])) _
    exact kt
  obtain ⟨T4, X4, e4, st4⟩ := getS2 X2 hx hZ hown (host := "") (Or.inl (hw _ (own_w 41 rfl))) Via.refl e2 (SC.ext O0.2) (g := (mkF m 27 #[.val (.ref a1), .val (.ref a2), .val (.int (0 : Int32)), .val (.int (4 : Int32)), .val .null, .unset] [])) rfl (hb hby d6_27)
  have pre5 : own_Go p e below S0 (T4.setTop (mkF m 36 #[.val (.ref a1), .val (.ref a2), .val (.int (0 : Int32)), .val (.int (4 : Int32)), .val .null, .unset] [(.int (4 : Int32)), (.int (0 : Int32)), (.ref a2)])) := by
    intro t kt
    refine pre3 t ?_
    refine st4 _ ?_
    show Steps p.tables e below (T4.setTop (mkF m 30 #[.val (.ref a1), .val (.ref a2), .val (.int (0 : Int32)), .val (.int (4 : Int32)), .val .null, .unset] [(.int wC)])) _
    refine XS.ifNo X4.here hx rfl (hb hby d6_30) rfl ((if0 _ _).trans (feq hC).1) ?_
    show Steps p.tables e below (T4.setTop (mkF m 33 #[.val (.ref a1), .val (.ref a2), .val (.int (0 : Int32)), .val (.int (4 : Int32)), .val .null, .unset] [])) _
    refine XS.aloadN X4.here hx rfl (hb hby d6_33) rfl rfl ?_
    show Steps p.tables e below (T4.setTop (mkF m 34 #[.val (.ref a1), .val (.ref a2), .val (.int (0 : Int32)), .val (.int (4 : Int32)), .val .null, .unset] [(.ref a2)])) _
    refine XS.iloadN X4.here hx rfl (hb hby d6_34) rfl ?_
    show Steps p.tables e below (T4.setTop (mkF m 35 #[.val (.ref a1), .val (.ref a2), .val (.int (0 : Int32)), .val (.int (4 : Int32)), .val .null, .unset] [(.int (0 : Int32)), (.ref a2)])) _
    refine XS.iloadN X4.here hx rfl (hb hby d6_35) rfl ?_
    show Steps p.tables e below (T4.setTop (mkF m 36 #[.val (.ref a1), .val (.ref a2), .val (.int (0 : Int32)), .val (.int (4 : Int32)), .val .null, .unset] [(.int (4 : Int32)), (.int (0 : Int32)), (.ref a2)])) _
    exact kt
  obtain ⟨_, _, ⟨T6, L6, k6, n6⟩, -, X6, ⟨Lc6, hQ6, l6, y6, z6⟩, st6⟩ := Jvm.LawKit.callS X4 hx (y := (⟨"java/lang/StringUTF16", "compress", "([CII)[B"⟩ : MethodName)) hown (mvT hZ (hw _ (own_w 42 rfl))) (mvT hZ (hw _ (own_w 43 rfl))) (mvT hZ (hw _ (own_w 44 rfl))) (mvT hZ (hw _ (own_w 45 rfl))) (by decide) (backOf (W := 0) (rmcmp3_4 l Z a0 hw [] a2 kc c0 c1 c2 c3 h0 n0 Z0 O0 SA SH SL VC) hZ (hw _ (own_w 45 rfl)) (hw _ (own_w 44 rfl)) (by decide) (by decide)) (g := (mkF m 36 #[.val (.ref a1), .val (.ref a2), .val (.int (0 : Int32)), .val (.int (4 : Int32)), .val .null, .unset] [(.int (4 : Int32)), (.int (0 : Int32)), (.ref a2)])) rfl (by rw [hml]; rfl) (argsL := [(.ref a2), (.int (0 : Int32)), (.int (4 : Int32))]) (rest := []) (lenOf pd_4 rfl) rfl (by show 2 * 0 + _ ≤ _; exact Nat.le_of_eq rfl) (hb hby d6_36) (fun _ _ => ⟨rfl, e4, (by decide : 0 + 2 ≤ _), (by decide : 0 + 12 ≤ _)⟩)
  dsimp only [Pt.U, Pt.locs, Pt.cells, Pt.slots] at X6 l6 y6 z6 st6 hQ6
  subst l6 y6 z6
  obtain ⟨b7, kb8, rfl, Nq6, K6, g9, g10⟩ := hQ6
  have N6 := Fr.app N0 Nq6
  have ne11 : a1 ≠ b7 := Nat.ne_of_lt (Nat.lt_of_lt_of_le E1.lt g9)
  have ne12 : a2 ≠ b7 := Nat.ne_of_lt (Nat.lt_of_lt_of_le VC.lt g9)
  have ge13 : n0 ≤ b7 := Nat.le_trans Z0 g9
  have sz14 : h0.size ≤ b7 := Nat.le_trans kc0.1 g9
  have zs15 : n0 ≤ T6.heap.size := Nat.le_trans Z0 K6.1
  have kc16 : Keep h0 T6.heap [a1] := kc0.trans K6 all0
  have pre17 : own_Go p e below S0 (T6.setTop (mkF m 39 #[.val (.ref a1), .val (.ref a2), .val (.int (0 : Int32)), .val (.int (4 : Int32)), .val .null, .unset] [(.ref b7)])) := by
    intro t kt
    refine pre5 t ?_
    refine st6 _ ?_
    show Steps p.tables e below (T6.setTop (mkF m 39 #[.val (.ref a1), .val (.ref a2), .val (.int (0 : Int32)), .val (.int (4 : Int32)), .val .null, .unset] [(.ref b7)])) _
    exact kt
  obtain ⟨hl, hv⟩ | ⟨hl, hv⟩ := g10
  · have pre18 : own_Go p e below S0 (T6.setTop (mkF m 45 #[.val (.ref a1), .val (.ref a2), .val (.int (0 : Int32)), .val (.int (4 : Int32)), .val .null, .val (.ref b7)] [(.int (4 : Int32)), (.ref b7), (.ref a1)])) := by
      intro t kt
      refine pre17 t ?_
      refine XS.astore X6.here hx rfl (hb hby d6_39) rfl rfl (l' := #[.val (.ref a1), .val (.ref a2), .val (.int (0 : Int32)), .val (.int (4 : Int32)), .val .null, .val (.ref b7)]) rfl ?_
      show Steps p.tables e below (T6.setTop (mkF m 41 #[.val (.ref a1), .val (.ref a2), .val (.int (0 : Int32)), .val (.int (4 : Int32)), .val .null, .val (.ref b7)] [])) _
      refine XS.aloadN X6.here hx rfl (hb hby d6_41) rfl rfl ?_
      show Steps p.tables e below (T6.setTop (mkF m 42 #[.val (.ref a1), .val (.ref a2), .val (.int (0 : Int32)), .val (.int (4 : Int32)), .val .null, .val (.ref b7)] [(.ref a1)])) _
      refine XS.aload X6.here hx rfl (hb hby d6_42) rfl rfl ?_
      show Steps p.tables e below (T6.setTop (mkF m 44 #[.val (.ref a1), .val (.ref a2), .val (.int (0 : Int32)), .val (.int (4 : Int32)), .val .null, .val (.ref b7)] [(.ref b7), (.ref a1)])) _
      refine XS.iloadN X6.here hx rfl (hb hby d6_44) rfl ?_
      show Steps p.tables e below (T6.setTop (mkF m 45 #[.val (.ref a1), .val (.ref a2), .val (.int (0 : Int32)), .val (.int (4 : Int32)), .val .null, .val (.ref b7)] [(.int (4 : Int32)), (.ref b7), (.ref a1)])) _
      exact kt
    obtain ⟨_, _, ⟨T19, L19, k19, n19⟩, -, X19, ⟨Lc19, hQ19, l19, y19, z19⟩, st19⟩ := Jvm.LawKit.callS X6 hx (y := (⟨"java/lang/StringUTF16", "coderFromArrayLen", "([BI)B"⟩ : MethodName)) hown (mvT hZ (hw _ (own_w 50 rfl))) (mvT hZ (hw _ (own_w 51 rfl))) (mvT hZ (hw _ (own_w 44 rfl))) (mvT hZ (hw _ (own_w 52 rfl))) (by decide) (backOf (W := 1) (rmcofa_4_4 l Z a0 hw [] b7 kb8 [(.int (nar .byte (c0.toInt8.toInt32))), (.int (nar .byte (c1.toInt8.toInt32))), (.int (nar .byte (c2.toInt8.toInt32))), (.int (nar .byte (c3.toInt8.toInt32)))] (.int (0 : Int32)) T6.heap n0 zs15 hv) hZ (hw _ (own_w 52 rfl)) (hw _ (own_w 44 rfl)) (by decide) (by decide)) (g := (mkF m 45 #[.val (.ref a1), .val (.ref a2), .val (.int (0 : Int32)), .val (.int (4 : Int32)), .val .null, .val (.ref b7)] [(.int (4 : Int32)), (.ref b7), (.ref a1)])) rfl (by rw [hml]; rfl) (argsL := [(.ref b7), (.int (4 : Int32))]) (rest := [(.ref a1)]) (lenOf pd_6 rfl) rfl (by show 2 * 0 + _ ≤ _; exact Nat.le_of_eq rfl) (hb hby d6_45) (fun _ _ => ⟨rfl, rfl, (by decide : 2 + 0 ≤ _), (by decide : 12 + 0 ≤ _)⟩)
    dsimp only [Pt.U, Pt.locs, Pt.cells, Pt.slots] at X19 l19 y19 z19 st19 hQ19
    subst l19 y19 z19
    obtain ⟨rfl, Nq19, eq19⟩ := hQ19
    have N19 := Fr.app N6 Nq19
    have pre20 : own_Go p e below S0 (T19.setTop (mkF m 48 #[.val (.ref a1), .val (.ref a2), .val (.int (0 : Int32)), .val (.int (4 : Int32)), .val .null, .val (.ref b7)] [(.int (0 : Int32)), (.ref a1)])) := by
      intro t kt
      refine pre18 t ?_
      refine st19 _ ?_
      show Steps p.tables e below (T19.setTop (mkF m 48 #[.val (.ref a1), .val (.ref a2), .val (.int (0 : Int32)), .val (.int (4 : Int32)), .val .null, .val (.ref b7)] [(.int (0 : Int32)), (.ref a1)])) _
      exact kt
    have f21 : Fld Z T6.heap a1 "java/lang/String" "coder" "B" (.int (0 : Int32)) := (F2.keep K6 nin0)
    have f22 : Exa Z T6.heap a1 "java/lang/String" := (E1.keep K6)
    obtain ⟨T23, h23, X23, e23, W23, st23⟩ := putFN X19 hx hZ hown (hw _ (own_w 53 rfl)) Via.refl eq19 f21 f22 (Or.inr ⟨(hw _ (own_w 54 rfl)), rfl, hnm⟩) (hw _ (own_w 30 rfl)) (ty := .byte) (v' := (.int (0 : Int32))) (by decide) rfl (by decide) (g := (mkF m 48 #[.val (.ref a1), .val (.ref a2), .val (.int (0 : Int32)), .val (.int (4 : Int32)), .val .null, .val (.ref b7)] [(.int (0 : Int32)), (.ref a1)])) rfl rfl (hb hby d6_48)
    have N23 := Fr.snoc X23 N19 g1
    have zs24 : n0 ≤ h23.size := Nat.le_trans zs15 (Keep.of_wr W23).1
    have kc25 : Keep h0 h23 [a1] := kc16.wr W23 (Or.inl (List.mem_of_getElem? (i := 0) rfl))
    have fw23 : Fld Z h23 a1 "java/lang/String" "coder" "B" (.int (0 : Int32)) := f21.same W23
    have pre26 : own_Go p e below S0 (T23.setTop (mkF m 54 #[.val (.ref a1), .val (.ref a2), .val (.int (0 : Int32)), .val (.int (4 : Int32)), .val .null, .val (.ref b7)] [(.ref b7), (.ref a1)])) := by
      intro t kt
      refine pre20 t ?_
      refine st23 _ ?_
      show Steps p.tables e below (T23.setTop (mkF m 51 #[.val (.ref a1), .val (.ref a2), .val (.int (0 : Int32)), .val (.int (4 : Int32)), .val .null, .val (.ref b7)] [])) _
      refine XS.aloadN X23.here hx rfl (hb hby d6_51) rfl rfl ?_
      show Steps p.tables e below (T23.setTop (mkF m 52 #[.val (.ref a1), .val (.ref a2), .val (.int (0 : Int32)), .val (.int (4 : Int32)), .val .null, .val (.ref b7)] [(.ref a1)])) _
      refine XS.aload X23.here hx rfl (hb hby d6_52) rfl rfl ?_
      show Steps p.tables e below (T23.setTop (mkF m 54 #[.val (.ref a1), .val (.ref a2), .val (.int (0 : Int32)), .val (.int (4 : Int32)), .val .null, .val (.ref b7)] [(.ref b7), (.ref a1)])) _
      exact kt
    have f27 : Fld Z h23 a1 "java/lang/String" "value" "[B" .null := ((F1.keep K6 nin0).other W23 (Or.inr (slot_ne (Or.inr (hw _ (own_w 56 rfl))) (Or.inr (hw _ (own_w 54 rfl))) (by decide) (t := (.array .byte)) (t' := .byte) (by decide) (by decide))))
    have f28 : Exa Z h23 a1 "java/lang/String" := (f22.wr W23)
    obtain ⟨T29, h29, X29, e29, W29, st29⟩ := putF X23 hx hZ hown (host := "") (Or.inl (hw _ (own_w 55 rfl))) Via.refl e23 f27 f28 (Or.inr ⟨(hw _ (own_w 56 rfl)), rfl, hnm⟩) (hw _ (own_w 30 rfl)) (ty := (.array .byte)) (by decide) rfl rfl (g := (mkF m 54 #[.val (.ref a1), .val (.ref a2), .val (.int (0 : Int32)), .val (.int (4 : Int32)), .val .null, .val (.ref b7)] [(.ref b7), (.ref a1)])) rfl rfl (hb hby d6_54)
    have N29 := Fr.snoc X29 N23 g1
    have zs30 : n0 ≤ h29.size := Nat.le_trans zs24 (Keep.of_wr W29).1
    have kc31 : Keep h0 h29 [a1] := kc25.wr W29 (Or.inl (List.mem_of_getElem? (i := 0) rfl))
    have fw29 : Fld Z h29 a1 "java/lang/String" "value" "[B" (.ref b7) := f27.same W29
    have pre32 : own_Go p e below S0 (T29.setTop (mkF m 57 #[.val (.ref a1), .val (.ref a2), .val (.int (0 : Int32)), .val (.int (4 : Int32)), .val .null, .val (.ref b7)] [])) := by
      intro t kt
      refine pre26 t ?_
      refine st29 _ ?_
      show Steps p.tables e below (T29.setTop (mkF m 57 #[.val (.ref a1), .val (.ref a2), .val (.int (0 : Int32)), .val (.int (4 : Int32)), .val .null, .val (.ref b7)] [])) _
      exact kt
    have f33 : Exa Z h29 a1 "java/lang/String" := (f28.wr W29)
    have f34 : Fld Z h29 a1 "java/lang/String" "coder" "B" (.int (0 : Int32)) := (fw23.other W29 (Or.inr (slot_ne (Or.inr (hw _ (own_w 54 rfl))) (Or.inr (hw _ (own_w 56 rfl))) (by decide) (t := .byte) (t' := (.array .byte)) (by decide) (by decide))))
    have f35 : Arv Z h29 b7 kb8 .byte (4 : Int32) [(.int (nar .byte (c0.toInt8.toInt32))), (.int (nar .byte (c1.toInt8.toInt32))), (.int (nar .byte (c2.toInt8.toInt32))), (.int (nar .byte (c3.toInt8.toInt32)))] (.int (0 : Int32)) := ((hv.other W23 (Ne.symm ne11)).other W29 (Ne.symm ne11))
    obtain ⟨fs, hr, hrun, hended, hW, hsame⟩ := X29.leave (v := none) (fun _ => rfl)
    refine ⟨_, _, fin _ (pre32 _ ?_), hrun, hended, _, _, rfl, ?_, ⟨_, rfl⟩, hW, hsame.mono (by decide) (by decide)⟩
    · exact X29.returnOut hx Bd.returns (hb hby d6_57) hr
    · show Qinit4_4 Z a1 a2 kc c0 c1 c2 c3 wC h0 n0 _ T29.heap _
      rw [e29]
      exact ⟨b7, kb8, rfl, N29, kc31, sz14, ⟨f33, fw29, Or.inl ⟨f34, hl, f35⟩⟩⟩
  · have pre36 : own_Go p e below S0 (T6.setTop (mkF m 45 #[.val (.ref a1), .val (.ref a2), .val (.int (0 : Int32)), .val (.int (4 : Int32)), .val .null, .val (.ref b7)] [(.int (4 : Int32)), (.ref b7), (.ref a1)])) := by
      intro t kt
      refine pre17 t ?_
      refine XS.astore X6.here hx rfl (hb hby d6_39) rfl rfl (l' := #[.val (.ref a1), .val (.ref a2), .val (.int (0 : Int32)), .val (.int (4 : Int32)), .val .null, .val (.ref b7)]) rfl ?_
      show Steps p.tables e below (T6.setTop (mkF m 41 #[.val (.ref a1), .val (.ref a2), .val (.int (0 : Int32)), .val (.int (4 : Int32)), .val .null, .val (.ref b7)] [])) _
      refine XS.aloadN X6.here hx rfl (hb hby d6_41) rfl rfl ?_
      show Steps p.tables e below (T6.setTop (mkF m 42 #[.val (.ref a1), .val (.ref a2), .val (.int (0 : Int32)), .val (.int (4 : Int32)), .val .null, .val (.ref b7)] [(.ref a1)])) _
      refine XS.aload X6.here hx rfl (hb hby d6_42) rfl rfl ?_
      show Steps p.tables e below (T6.setTop (mkF m 44 #[.val (.ref a1), .val (.ref a2), .val (.int (0 : Int32)), .val (.int (4 : Int32)), .val .null, .val (.ref b7)] [(.ref b7), (.ref a1)])) _
      refine XS.iloadN X6.here hx rfl (hb hby d6_44) rfl ?_
      show Steps p.tables e below (T6.setTop (mkF m 45 #[.val (.ref a1), .val (.ref a2), .val (.int (0 : Int32)), .val (.int (4 : Int32)), .val .null, .val (.ref b7)] [(.int (4 : Int32)), (.ref b7), (.ref a1)])) _
      exact kt
    obtain ⟨_, _, ⟨T37, L37, k37, n37⟩, -, X37, ⟨Lc37, hQ37, l37, y37, z37⟩, st37⟩ := Jvm.LawKit.callS X6 hx (y := (⟨"java/lang/StringUTF16", "coderFromArrayLen", "([BI)B"⟩ : MethodName)) hown (mvT hZ (hw _ (own_w 50 rfl))) (mvT hZ (hw _ (own_w 51 rfl))) (mvT hZ (hw _ (own_w 44 rfl))) (mvT hZ (hw _ (own_w 52 rfl))) (by decide) (backOf (W := 1) (rmcofa_4_8 l Z a0 hw [] b7 kb8 [(.int (nar .byte ((c0 >>> ((0 : Int32) &&& 31)).toInt8.toInt32))), (.int (nar .byte ((c0 >>> ((8 : Int32) &&& 31)).toInt8.toInt32))), (.int (nar .byte ((c1 >>> ((0 : Int32) &&& 31)).toInt8.toInt32))), (.int (nar .byte ((c1 >>> ((8 : Int32) &&& 31)).toInt8.toInt32))), (.int (nar .byte ((c2 >>> ((0 : Int32) &&& 31)).toInt8.toInt32))), (.int (nar .byte ((c2 >>> ((8 : Int32) &&& 31)).toInt8.toInt32))), (.int (nar .byte ((c3 >>> ((0 : Int32) &&& 31)).toInt8.toInt32))), (.int (nar .byte ((c3 >>> ((8 : Int32) &&& 31)).toInt8.toInt32)))] (.int (0 : Int32)) T6.heap n0 zs15 hv) hZ (hw _ (own_w 52 rfl)) (hw _ (own_w 44 rfl)) (by decide) (by decide)) (g := (mkF m 45 #[.val (.ref a1), .val (.ref a2), .val (.int (0 : Int32)), .val (.int (4 : Int32)), .val .null, .val (.ref b7)] [(.int (4 : Int32)), (.ref b7), (.ref a1)])) rfl (by rw [hml]; rfl) (argsL := [(.ref b7), (.int (4 : Int32))]) (rest := [(.ref a1)]) (lenOf pd_6 rfl) rfl (by show 2 * 0 + _ ≤ _; exact Nat.le_of_eq rfl) (hb hby d6_45) (fun _ _ => ⟨rfl, rfl, (by decide : 2 + 0 ≤ _), (by decide : 12 + 0 ≤ _)⟩)
    dsimp only [Pt.U, Pt.locs, Pt.cells, Pt.slots] at X37 l37 y37 z37 st37 hQ37
    subst l37 y37 z37
    obtain ⟨rfl, Nq37, eq37⟩ := hQ37
    have N37 := Fr.app N6 Nq37
    have pre38 : own_Go p e below S0 (T37.setTop (mkF m 48 #[.val (.ref a1), .val (.ref a2), .val (.int (0 : Int32)), .val (.int (4 : Int32)), .val .null, .val (.ref b7)] [(.int (1 : Int32)), (.ref a1)])) := by
      intro t kt
      refine pre36 t ?_
      refine st37 _ ?_
      show Steps p.tables e below (T37.setTop (mkF m 48 #[.val (.ref a1), .val (.ref a2), .val (.int (0 : Int32)), .val (.int (4 : Int32)), .val .null, .val (.ref b7)] [(.int (1 : Int32)), (.ref a1)])) _
      exact kt
    have f39 : Fld Z T6.heap a1 "java/lang/String" "coder" "B" (.int (0 : Int32)) := (F2.keep K6 nin0)
    have f40 : Exa Z T6.heap a1 "java/lang/String" := (E1.keep K6)
    obtain ⟨T41, h41, X41, e41, W41, st41⟩ := putFN X37 hx hZ hown (hw _ (own_w 53 rfl)) Via.refl eq37 f39 f40 (Or.inr ⟨(hw _ (own_w 54 rfl)), rfl, hnm⟩) (hw _ (own_w 30 rfl)) (ty := .byte) (v' := (.int (1 : Int32))) (by decide) rfl (by decide) (g := (mkF m 48 #[.val (.ref a1), .val (.ref a2), .val (.int (0 : Int32)), .val (.int (4 : Int32)), .val .null, .val (.ref b7)] [(.int (1 : Int32)), (.ref a1)])) rfl rfl (hb hby d6_48)
    have N41 := Fr.snoc X41 N37 g1
    have zs42 : n0 ≤ h41.size := Nat.le_trans zs15 (Keep.of_wr W41).1
    have kc43 : Keep h0 h41 [a1] := kc16.wr W41 (Or.inl (List.mem_of_getElem? (i := 0) rfl))
    have fw41 : Fld Z h41 a1 "java/lang/String" "coder" "B" (.int (1 : Int32)) := f39.same W41
    have pre44 : own_Go p e below S0 (T41.setTop (mkF m 54 #[.val (.ref a1), .val (.ref a2), .val (.int (0 : Int32)), .val (.int (4 : Int32)), .val .null, .val (.ref b7)] [(.ref b7), (.ref a1)])) := by
      intro t kt
      refine pre38 t ?_
      refine st41 _ ?_
      show Steps p.tables e below (T41.setTop (mkF m 51 #[.val (.ref a1), .val (.ref a2), .val (.int (0 : Int32)), .val (.int (4 : Int32)), .val .null, .val (.ref b7)] [])) _
      refine XS.aloadN X41.here hx rfl (hb hby d6_51) rfl rfl ?_
      show Steps p.tables e below (T41.setTop (mkF m 52 #[.val (.ref a1), .val (.ref a2), .val (.int (0 : Int32)), .val (.int (4 : Int32)), .val .null, .val (.ref b7)] [(.ref a1)])) _
      refine XS.aload X41.here hx rfl (hb hby d6_52) rfl rfl ?_
      show Steps p.tables e below (T41.setTop (mkF m 54 #[.val (.ref a1), .val (.ref a2), .val (.int (0 : Int32)), .val (.int (4 : Int32)), .val .null, .val (.ref b7)] [(.ref b7), (.ref a1)])) _
      exact kt
    have f45 : Fld Z h41 a1 "java/lang/String" "value" "[B" .null := ((F1.keep K6 nin0).other W41 (Or.inr (slot_ne (Or.inr (hw _ (own_w 56 rfl))) (Or.inr (hw _ (own_w 54 rfl))) (by decide) (t := (.array .byte)) (t' := .byte) (by decide) (by decide))))
    have f46 : Exa Z h41 a1 "java/lang/String" := (f40.wr W41)
    obtain ⟨T47, h47, X47, e47, W47, st47⟩ := putF X41 hx hZ hown (host := "") (Or.inl (hw _ (own_w 55 rfl))) Via.refl e41 f45 f46 (Or.inr ⟨(hw _ (own_w 56 rfl)), rfl, hnm⟩) (hw _ (own_w 30 rfl)) (ty := (.array .byte)) (by decide) rfl rfl (g := (mkF m 54 #[.val (.ref a1), .val (.ref a2), .val (.int (0 : Int32)), .val (.int (4 : Int32)), .val .null, .val (.ref b7)] [(.ref b7), (.ref a1)])) rfl rfl (hb hby d6_54)
    have N47 := Fr.snoc X47 N41 g1
    have zs48 : n0 ≤ h47.size := Nat.le_trans zs42 (Keep.of_wr W47).1
    have kc49 : Keep h0 h47 [a1] := kc43.wr W47 (Or.inl (List.mem_of_getElem? (i := 0) rfl))
    have fw47 : Fld Z h47 a1 "java/lang/String" "value" "[B" (.ref b7) := f45.same W47
    have pre50 : own_Go p e below S0 (T47.setTop (mkF m 57 #[.val (.ref a1), .val (.ref a2), .val (.int (0 : Int32)), .val (.int (4 : Int32)), .val .null, .val (.ref b7)] [])) := by
      intro t kt
      refine pre44 t ?_
      refine st47 _ ?_
      show Steps p.tables e below (T47.setTop (mkF m 57 #[.val (.ref a1), .val (.ref a2), .val (.int (0 : Int32)), .val (.int (4 : Int32)), .val .null, .val (.ref b7)] [])) _
      exact kt
    have f51 : Exa Z h47 a1 "java/lang/String" := (f46.wr W47)
    have f52 : Fld Z h47 a1 "java/lang/String" "coder" "B" (.int (1 : Int32)) := (fw41.other W47 (Or.inr (slot_ne (Or.inr (hw _ (own_w 54 rfl))) (Or.inr (hw _ (own_w 56 rfl))) (by decide) (t := .byte) (t' := (.array .byte)) (by decide) (by decide))))
    have f53 : Arv Z h47 b7 kb8 .byte (8 : Int32) [(.int (nar .byte ((c0 >>> ((0 : Int32) &&& 31)).toInt8.toInt32))), (.int (nar .byte ((c0 >>> ((8 : Int32) &&& 31)).toInt8.toInt32))), (.int (nar .byte ((c1 >>> ((0 : Int32) &&& 31)).toInt8.toInt32))), (.int (nar .byte ((c1 >>> ((8 : Int32) &&& 31)).toInt8.toInt32))), (.int (nar .byte ((c2 >>> ((0 : Int32) &&& 31)).toInt8.toInt32))), (.int (nar .byte ((c2 >>> ((8 : Int32) &&& 31)).toInt8.toInt32))), (.int (nar .byte ((c3 >>> ((0 : Int32) &&& 31)).toInt8.toInt32))), (.int (nar .byte ((c3 >>> ((8 : Int32) &&& 31)).toInt8.toInt32)))] (.int (0 : Int32)) := ((hv.other W41 (Ne.symm ne11)).other W47 (Ne.symm ne11))
    obtain ⟨fs, hr, hrun, hended, hW, hsame⟩ := X47.leave (v := none) (fun _ => rfl)
    refine ⟨_, _, fin _ (pre50 _ ?_), hrun, hended, _, _, rfl, ?_, ⟨_, rfl⟩, hW, hsame.mono (by decide) (by decide)⟩
    · exact X47.returnOut hx Bd.returns (hb hby d6_57) hr
    · show Qinit4_4 Z a1 a2 kc c0 c1 c2 c3 wC h0 n0 _ T47.heap _
      rw [e47]
      exact ⟨b7, kb8, rfl, N47, kc49, sz14, ⟨f51, fw47, Or.inr ⟨f52, hl, f53⟩⟩⟩

theorem d5_0 : decode jdk_42_method_3_code 0 = .ok (.aload_n 0, 1) := by decide +kernel
theorem d5_1 : decode jdk_42_method_3_code 1 = .ok (.aload_n 1, 1) := by decide +kernel
theorem d5_2 : decode jdk_42_method_3_code 2 = .ok (.iconst 0, 1) := by decide +kernel
theorem d5_3 : decode jdk_42_method_3_code 3 = .ok (.aload_n 1, 1) := by decide +kernel
theorem d5_4 : decode jdk_42_method_3_code 4 = .ok (.arraylength, 1) := by decide +kernel
theorem d5_5 : decode jdk_42_method_3_code 5 = .ok (.aconst_null, 1) := by decide +kernel
theorem d5_6 : decode jdk_42_method_3_code 6 = .ok (.invokespecial 27, 3) := by decide +kernel
theorem d5_9 : decode jdk_42_method_3_code 9 = .ok (.return_, 1) := by decide +kernel
theorem pn_5 : plainName "java/lang/String" = true := by first | (simp [plainName, overriddenIn]; done) | decide +kernel
theorem pd_7 : parseMethodDescriptor "([CIILjava/lang/Void;)V" = some ⟨[(.array .char), .int, .int, (.object "java/lang/Void")], none⟩ := by decide +kernel
theorem ef_init1_4 (m : MethodId) (x0 : Addr) (x1 : Addr) : entryFrame m #[(.ref x0), (.ref x1)] 2 = mkF m 0 #[.val (.ref x0), .val (.ref x1)] [] := by first | (simp [entryFrame, mkF, argsToLocals, Value.category]; done) | rfl
def Qinit1_4 (Z : State) (a1 : Addr) (a2 : Addr) (kc : ClassId) (c0 : Int32) (c1 : Int32) (c2 : Int32) (c3 : Int32) (wC : Int32) (h0 : Heap) (n0 : Nat) (v : Option Value) (h : Heap) (L : List Loc) : Prop := ∃ vb : Addr, ∃ kb : ClassId, v = none ∧ Fr n0 L ∧ Keep h0 h [a1] ∧ h0.size ≤ vb ∧ own_Str Z h a1 vb kb [c0, c1, c2, c3]
set_option maxRecDepth 65536 in
set_option maxHeartbeats 40000000 in
theorem rminit1_4 (l : Launch) (Z : State) (a0 : Array Value) (hw : ∀ d ∈ tables_1, d.before a0 Z = true) (ws : List Jvm.Cond) (a1 : Addr) (a2 : Addr) (kc : ClassId) (c0 : Int32) (c1 : Int32) (c2 : Int32) (c3 : Int32) (wC : Int32) (h0 : Heap) (n0 : Nat) (Z0 : n0 ≤ h0.size) (O0 : Old Z n0 h0) (SC : Sta Z Z.heap "java/lang/String" "COMPACT_STRINGS" "Z" (.int wC)) (hC : (¬ wC = (0 : Int32))) (SA : Sta Z Z.heap "java/lang/StringUTF16" "$assertionsDisabled" "Z" (.int (1 : Int32))) (SH : Sta Z Z.heap "java/lang/StringUTF16" "HI_BYTE_SHIFT" "I" (.int (0 : Int32))) (SL : Sta Z Z.heap "java/lang/StringUTF16" "LO_BYTE_SHIFT" "I" (.int (8 : Int32))) (E1 : Exa Z h0 a1 "java/lang/String") (F1 : Fld Z h0 a1 "java/lang/String" "value" "[B" .null) (F2 : Fld Z h0 a1 "java/lang/String" "coder" "B" (.int (0 : Int32))) (g1 : n0 ≤ a1) (VC : Arv Z h0 a2 kc .char (4 : Int32) [(.int c0), (.int c1), (.int c2), (.int c3)] (.int (0 : Int32))) :
    MetFree l (⟨"java/lang/String", "<init>", "([C)V"⟩ : MethodName) (head1 (Jvm.Cond.code (⟨"java/lang/String", "<init>", "([C)V"⟩ : MethodName) jdk_42_method_3_code 2 none :: ws) ({ frames := 5, cells := 2, slots := 12, locals := 74 } : Room)) (fun a U => a = #[(.ref a1), (.ref a2)] ∧ Z.Warmed39 U.vm ∧ U.heap = h0) (fun _ _ _ _ _ => True) (fun _ U o U' => ∃ v L, o = .returned v ∧ Qinit1_4 Z a1 a2 kc c0 c1 c2 c3 wC h0 n0 v U'.heap L ∧ FrameEnd U o U' L ({ frames := 5, cells := 2, slots := 12, locals := 74 } : Room).cells ({ frames := 5, cells := 2, slots := 12, locals := 74 } : Room).slots) := by
  refine MetFree.of_bodySF (plainFor_of_name pn_5) hisR ?_
  intro p e s m args below meth c s₁ Bd hml0 hP hK
  obtain ⟨rfl, hZ, hh⟩ := hP
  have hx := Bd.exec
  have hby := Bd.bytes
  have hml : c.maxLocals = 2 := hml0
  have hown0 := findClass_of_methodNamed Bd.named
  have hown : s.vm.findClass "java/lang/String" = some m.cls := hown0
  have hnm := (name_of_methodNamed Bd.named Bd.method).1
  have X0 : Stand p l e ({ frames := 5, cells := 2, slots := 12, locals := 74 } : Room) s m #[(.ref a1), (.ref a2)] below meth c s₁ [] 0 0 := Stand.of_body Bd
  have e0 : s₁.heap = h0 := by rw [← hh, Bd.state]; rfl
  have N0 := Fr.nil n0
  obtain ⟨S0, hS0⟩ : ∃ z, z = s₁.setTop (entryFrame m #[(.ref a1), (.ref a2)] 2) := ⟨_, rfl⟩
  have pre0 : own_Go p e below S0 (s₁.setTop (mkF m 0 #[.val (.ref a1), .val (.ref a2)] [])) := fun t k => by rw [hS0]; exact castTop (ef_init1_4 m a1 a2) k
  have fin : ∀ t, Steps p.tables e below S0 t → Steps p.tables e below (s₁.setTop (entryFrame m #[(.ref a1), (.ref a2)] 2)) t := fun t k => by rw [hS0] at k; exact k
  have kc0 : Keep h0 h0 [a1] := Keep.refl _ _
  have pre1 : own_Go p e below S0 (s₁.setTop (mkF m 4 #[.val (.ref a1), .val (.ref a2)] [(.ref a2), (.int (0 : Int32)), (.ref a2), (.ref a1)])) := by
    intro t kt
    refine pre0 t ?_
    refine XS.aloadN X0.here hx rfl (hb hby d5_0) rfl rfl ?_
    show Steps p.tables e below (s₁.setTop (mkF m 1 #[.val (.ref a1), .val (.ref a2)] [(.ref a1)])) _
    refine XS.aloadN X0.here hx rfl (hb hby d5_1) rfl rfl ?_
    show Steps p.tables e below (s₁.setTop (mkF m 2 #[.val (.ref a1), .val (.ref a2)] [(.ref a2), (.ref a1)])) _
    refine XS.iconst X0.here hx rfl (hb hby d5_2) ?_
    show Steps p.tables e below (s₁.setTop (mkF m 3 #[.val (.ref a1), .val (.ref a2)] [(.int (0 : Int32)), (.ref a2), (.ref a1)])) _
    refine XS.aloadN X0.here hx rfl (hb hby d5_3) rfl rfl ?_
    show Steps p.tables e below (s₁.setTop (mkF m 4 #[.val (.ref a1), .val (.ref a2)] [(.ref a2), (.int (0 : Int32)), (.ref a2), (.ref a1)])) _
    exact kt
  obtain ⟨cl2, Ar2, -, Sz2, Ng2, -, -⟩ := id VC
  have pre3 : own_Go p e below S0 (s₁.setTop (mkF m 6 #[.val (.ref a1), .val (.ref a2)] [.null, (.int (4 : Int32)), (.int (0 : Int32)), (.ref a2), (.ref a1)])) := by
    intro t kt
    refine pre1 t ?_
    refine X0.arraylength hx (by rw [e0]; exact Ar2.1) (State.isArrayOf_alike hZ.alike Ar2.2.1) (g := (mkF m 4 #[.val (.ref a1), .val (.ref a2)] [(.ref a2), (.int (0 : Int32)), (.ref a2), (.ref a1)])) rfl rfl (hb hby d5_4) _ ?_
    rw [len_of Sz2 Ng2]
    show Steps p.tables e below (s₁.setTop (mkF m 5 #[.val (.ref a1), .val (.ref a2)] [(.int (4 : Int32)), (.int (0 : Int32)), (.ref a2), (.ref a1)])) _
    refine XS.aconstNull X0.here hx rfl (hb hby d5_5) ?_
    show Steps p.tables e below (s₁.setTop (mkF m 6 #[.val (.ref a1), .val (.ref a2)] [.null, (.int (4 : Int32)), (.int (0 : Int32)), (.ref a2), (.ref a1)])) _
    exact kt
  obtain ⟨_, _, ⟨T4, L4, k4, n4⟩, -, X4, ⟨Lc4, hQ4, l4, y4, z4⟩, st4⟩ := X0.specialBack hx (y := (⟨"java/lang/String", "<init>", "([CIILjava/lang/Void;)V"⟩ : MethodName)) rfl hown (mvT hZ (hw _ (own_w 36 rfl))) (mvT hZ (hw _ (own_w 37 rfl))) (mvT hZ (hw _ (own_w 39 rfl))) (by decide) (backOf (W := 0) (rminit4_4 l Z a0 hw [] a1 a2 kc c0 c1 c2 c3 wC h0 n0 Z0 O0 SC hC SA SH SL E1 F1 F2 g1 VC) hZ (hw _ (own_w 39 rfl)) (hw _ (own_w 31 rfl)) (by decide) (by decide)) (g := (mkF m 6 #[.val (.ref a1), .val (.ref a2)] [.null, (.int (4 : Int32)), (.int (0 : Int32)), (.ref a2), (.ref a1)])) rfl (by rw [hml]; rfl) (Steps.refl _) (a := a1) (argsL := [(.ref a2), (.int (0 : Int32)), (.int (4 : Int32)), .null]) (rest := []) (lenOf pd_7 rfl) rfl (by show 2 * 0 + _ ≤ _; exact Nat.le_of_eq rfl) (hb hby d5_6) (fun _ _ => ⟨rfl, e0, (by decide : 0 + 2 ≤ _), (by decide : 0 + 12 ≤ _)⟩)
  dsimp only [Pt.U, Pt.locs, Pt.cells, Pt.slots] at X4 l4 y4 z4 st4 hQ4
  subst l4 y4 z4
  obtain ⟨vb5, kb6, rfl, Nq4, K4, g7, g8⟩ := hQ4
  have N4 := Fr.app N0 Nq4
  have ne9 : a1 ≠ vb5 := Nat.ne_of_lt (Nat.lt_of_lt_of_le E1.lt g7)
  have ne10 : a2 ≠ vb5 := Nat.ne_of_lt (Nat.lt_of_lt_of_le VC.lt g7)
  have ge11 : n0 ≤ vb5 := Nat.le_trans Z0 g7
  have sz12 : h0.size ≤ vb5 := Nat.le_trans kc0.1 g7
  have zs13 : n0 ≤ T4.heap.size := Nat.le_trans Z0 K4.1
  have kc14 : Keep h0 T4.heap [a1] := kc0.trans K4 (allS (Or.inl (List.mem_of_getElem? (i := 0) rfl)) all0)
  have pre15 : own_Go p e below S0 (T4.setTop (mkF m 9 #[.val (.ref a1), .val (.ref a2)] [])) := by
    intro t kt
    refine pre3 t ?_
    refine st4.trans ?_
    show Steps p.tables e below (T4.setTop (mkF m 9 #[.val (.ref a1), .val (.ref a2)] [])) _
    exact kt
  obtain ⟨fs, hr, hrun, hended, hW, hsame⟩ := X4.leave (v := none) (fun _ => rfl)
  refine ⟨_, _, fin _ (pre15 _ ?_), hrun, hended, _, _, rfl, ?_, ⟨_, rfl⟩, hW, hsame.mono (by decide) (by decide)⟩
  · exact X4.returnOut hx Bd.returns (hb hby d5_9) hr
  · show Qinit1_4 Z a1 a2 kc c0 c1 c2 c3 wC h0 n0 _ T4.heap _
    exact ⟨vb5, kb6, rfl, N4, kc14, sz12, g8⟩

theorem d11_0 : decode jdk_42_method_152_code 0 = .ok (.getstatic 38, 3) := by decide +kernel
theorem d11_3 : decode jdk_42_method_152_code 3 = .ok (.ifCond .eq 10, 3) := by decide +kernel
theorem d11_6 : decode jdk_42_method_152_code 6 = .ok (.aload_n 0, 1) := by decide +kernel
theorem d11_7 : decode jdk_42_method_152_code 7 = .ok (.getfield 15, 3) := by decide +kernel
theorem d11_10 : decode jdk_42_method_152_code 10 = .ok (.goto 4, 3) := by decide +kernel
theorem d11_14 : decode jdk_42_method_152_code 14 = .ok (.ireturn, 1) := by decide +kernel
theorem pn_11 : plainName "java/lang/String" = true := by first | (simp [plainName, overriddenIn]; done) | decide +kernel
theorem ef_coder0 (m : MethodId) (x0 : Addr) : entryFrame m #[(.ref x0)] 1 = mkF m 0 #[.val (.ref x0)] [] := by first | (simp [entryFrame, mkF, argsToLocals, Value.category]; done) | rfl
def Qcoder0 (Z : State) (a1 : Addr) (wC : Int32) (h0 : Heap) (n0 : Nat) (v : Option Value) (h : Heap) (L : List Loc) : Prop := v = (some (.int (0 : Int32))) ∧ Fr n0 L ∧ h = h0
set_option maxRecDepth 65536 in
set_option maxHeartbeats 40000000 in
theorem rmcoder0 (l : Launch) (Z : State) (a0 : Array Value) (hw : ∀ d ∈ tables_1, d.before a0 Z = true) (ws : List Jvm.Cond) (a1 : Addr) (wC : Int32) (h0 : Heap) (n0 : Nat) (Z0 : n0 ≤ h0.size) (O0 : Old Z n0 h0) (SC : Sta Z Z.heap "java/lang/String" "COMPACT_STRINGS" "Z" (.int wC)) (hC : (¬ wC = (0 : Int32))) (FC : Fld Z h0 a1 "java/lang/String" "coder" "B" (.int (0 : Int32))) :
    MetFree l (⟨"java/lang/String", "coder", "()B"⟩ : MethodName) (head1 (Jvm.Cond.code (⟨"java/lang/String", "coder", "()B"⟩ : MethodName) jdk_42_method_152_code 1 (some .byte) :: ws) ({ frames := 0, cells := 0, slots := 0, locals := 0 } : Room)) (fun a U => a = #[(.ref a1)] ∧ Z.Warmed39 U.vm ∧ U.heap = h0) (fun _ _ _ _ _ => True) (fun _ U o U' => ∃ v L, o = .returned v ∧ Qcoder0 Z a1 wC h0 n0 v U'.heap L ∧ FrameEnd U o U' L ({ frames := 0, cells := 0, slots := 0, locals := 0 } : Room).cells ({ frames := 0, cells := 0, slots := 0, locals := 0 } : Room).slots) := by
  refine MetFree.of_bodySF (plainFor_of_name pn_11) hisR ?_
  intro p e s m args below meth c s₁ Bd hml0 hP hK
  obtain ⟨rfl, hZ, hh⟩ := hP
  have hx := Bd.exec
  have hby := Bd.bytes
  have hml : c.maxLocals = 1 := hml0
  have hown0 := findClass_of_methodNamed Bd.named
  have hown : s.vm.findClass "java/lang/String" = some m.cls := hown0
  have hnm := (name_of_methodNamed Bd.named Bd.method).1
  have X0 : Stand p l e ({ frames := 0, cells := 0, slots := 0, locals := 0 } : Room) s m #[(.ref a1)] below meth c s₁ [] 0 0 := Stand.of_body Bd
  have e0 : s₁.heap = h0 := by rw [← hh, Bd.state]; rfl
  have N0 := Fr.nil n0
  obtain ⟨S0, hS0⟩ : ∃ z, z = s₁.setTop (entryFrame m #[(.ref a1)] 1) := ⟨_, rfl⟩
  have pre0 : own_Go p e below S0 (s₁.setTop (mkF m 0 #[.val (.ref a1)] [])) := fun t k => by rw [hS0]; exact castTop (ef_coder0 m a1) k
  have fin : ∀ t, Steps p.tables e below S0 t → Steps p.tables e below (s₁.setTop (entryFrame m #[(.ref a1)] 1)) t := fun t k => by rw [hS0] at k; exact k
  obtain ⟨T1, X1, e1, st1⟩ := getS2 X0 hx hZ hown (host := "") (Or.inl (hw _ (own_w 41 rfl))) Via.refl e0 (SC.ext O0.2) (g := (mkF m 0 #[.val (.ref a1)] [])) rfl (hb hby d11_0)
  have pre2 : own_Go p e below S0 (T1.setTop (mkF m 7 #[.val (.ref a1)] [(.ref a1)])) := by
    intro t kt
    refine pre0 t ?_
    refine st1 _ ?_
    show Steps p.tables e below (T1.setTop (mkF m 3 #[.val (.ref a1)] [(.int wC)])) _
    refine XS.ifNo X1.here hx rfl (hb hby d11_3) rfl ((if0 _ _).trans (feq hC).1) ?_
    show Steps p.tables e below (T1.setTop (mkF m 6 #[.val (.ref a1)] [])) _
    refine XS.aloadN X1.here hx rfl (hb hby d11_6) rfl rfl ?_
    show Steps p.tables e below (T1.setTop (mkF m 7 #[.val (.ref a1)] [(.ref a1)])) _
    exact kt
  obtain ⟨T3, X3, e3, st3⟩ := getF X1 hx hZ hown (host := "") (Or.inl (hw _ (own_w 53 rfl))) Via.refl e1 FC (g := (mkF m 7 #[.val (.ref a1)] [(.ref a1)])) rfl rfl (hb hby d11_7)
  have pre4 : own_Go p e below S0 (T3.setTop (mkF m 14 #[.val (.ref a1)] [(.int (0 : Int32))])) := by
    intro t kt
    refine pre2 t ?_
    refine st3 _ ?_
    show Steps p.tables e below (T3.setTop (mkF m 10 #[.val (.ref a1)] [(.int (0 : Int32))])) _
    refine XS.goto X3.here hx rfl (pc0 := 10) (pc' := 14) rfl (hb hby d11_10) (by decide) (by decide) ?_
    show Steps p.tables e below (T3.setTop (mkF m 14 #[.val (.ref a1)] [(.int (0 : Int32))])) _
    exact kt
  obtain ⟨fs, hr, hrun, hended, hW, hsame⟩ := X3.leave (v := some (.int (0 : Int32))) (fun h => by rw [Bd.returns] at h; cases h)
  refine ⟨_, _, fin _ (pre4 _ ?_), hrun, hended, _, _, rfl, ?_, ⟨_, rfl⟩, hW, hsame.mono (by decide) (by decide)⟩
  · exact retN X3 hx (t := .byte) Bd.returns (by simp) (hb hby d11_14) hr
  · show Qcoder0 Z a1 wC h0 n0 _ T3.heap _
    rw [e3]
    exact ⟨rfl, N0, rfl⟩

theorem ef_coder1 (m : MethodId) (x0 : Addr) : entryFrame m #[(.ref x0)] 1 = mkF m 0 #[.val (.ref x0)] [] := by first | (simp [entryFrame, mkF, argsToLocals, Value.category]; done) | rfl
def Qcoder1 (Z : State) (a1 : Addr) (wC : Int32) (h0 : Heap) (n0 : Nat) (v : Option Value) (h : Heap) (L : List Loc) : Prop := v = (some (.int (1 : Int32))) ∧ Fr n0 L ∧ h = h0
set_option maxRecDepth 65536 in
set_option maxHeartbeats 40000000 in
theorem rmcoder1 (l : Launch) (Z : State) (a0 : Array Value) (hw : ∀ d ∈ tables_1, d.before a0 Z = true) (ws : List Jvm.Cond) (a1 : Addr) (wC : Int32) (h0 : Heap) (n0 : Nat) (Z0 : n0 ≤ h0.size) (O0 : Old Z n0 h0) (SC : Sta Z Z.heap "java/lang/String" "COMPACT_STRINGS" "Z" (.int wC)) (hC : (¬ wC = (0 : Int32))) (FC : Fld Z h0 a1 "java/lang/String" "coder" "B" (.int (1 : Int32))) :
    MetFree l (⟨"java/lang/String", "coder", "()B"⟩ : MethodName) (head1 (Jvm.Cond.code (⟨"java/lang/String", "coder", "()B"⟩ : MethodName) jdk_42_method_152_code 1 (some .byte) :: ws) ({ frames := 0, cells := 0, slots := 0, locals := 0 } : Room)) (fun a U => a = #[(.ref a1)] ∧ Z.Warmed39 U.vm ∧ U.heap = h0) (fun _ _ _ _ _ => True) (fun _ U o U' => ∃ v L, o = .returned v ∧ Qcoder1 Z a1 wC h0 n0 v U'.heap L ∧ FrameEnd U o U' L ({ frames := 0, cells := 0, slots := 0, locals := 0 } : Room).cells ({ frames := 0, cells := 0, slots := 0, locals := 0 } : Room).slots) := by
  refine MetFree.of_bodySF (plainFor_of_name pn_11) hisR ?_
  intro p e s m args below meth c s₁ Bd hml0 hP hK
  obtain ⟨rfl, hZ, hh⟩ := hP
  have hx := Bd.exec
  have hby := Bd.bytes
  have hml : c.maxLocals = 1 := hml0
  have hown0 := findClass_of_methodNamed Bd.named
  have hown : s.vm.findClass "java/lang/String" = some m.cls := hown0
  have hnm := (name_of_methodNamed Bd.named Bd.method).1
  have X0 : Stand p l e ({ frames := 0, cells := 0, slots := 0, locals := 0 } : Room) s m #[(.ref a1)] below meth c s₁ [] 0 0 := Stand.of_body Bd
  have e0 : s₁.heap = h0 := by rw [← hh, Bd.state]; rfl
  have N0 := Fr.nil n0
  obtain ⟨S0, hS0⟩ : ∃ z, z = s₁.setTop (entryFrame m #[(.ref a1)] 1) := ⟨_, rfl⟩
  have pre0 : own_Go p e below S0 (s₁.setTop (mkF m 0 #[.val (.ref a1)] [])) := fun t k => by rw [hS0]; exact castTop (ef_coder1 m a1) k
  have fin : ∀ t, Steps p.tables e below S0 t → Steps p.tables e below (s₁.setTop (entryFrame m #[(.ref a1)] 1)) t := fun t k => by rw [hS0] at k; exact k
  obtain ⟨T1, X1, e1, st1⟩ := getS2 X0 hx hZ hown (host := "") (Or.inl (hw _ (own_w 41 rfl))) Via.refl e0 (SC.ext O0.2) (g := (mkF m 0 #[.val (.ref a1)] [])) rfl (hb hby d11_0)
  have pre2 : own_Go p e below S0 (T1.setTop (mkF m 7 #[.val (.ref a1)] [(.ref a1)])) := by
    intro t kt
    refine pre0 t ?_
    refine st1 _ ?_
    show Steps p.tables e below (T1.setTop (mkF m 3 #[.val (.ref a1)] [(.int wC)])) _
    refine XS.ifNo X1.here hx rfl (hb hby d11_3) rfl ((if0 _ _).trans (feq hC).1) ?_
    show Steps p.tables e below (T1.setTop (mkF m 6 #[.val (.ref a1)] [])) _
    refine XS.aloadN X1.here hx rfl (hb hby d11_6) rfl rfl ?_
    show Steps p.tables e below (T1.setTop (mkF m 7 #[.val (.ref a1)] [(.ref a1)])) _
    exact kt
  obtain ⟨T3, X3, e3, st3⟩ := getF X1 hx hZ hown (host := "") (Or.inl (hw _ (own_w 53 rfl))) Via.refl e1 FC (g := (mkF m 7 #[.val (.ref a1)] [(.ref a1)])) rfl rfl (hb hby d11_7)
  have pre4 : own_Go p e below S0 (T3.setTop (mkF m 14 #[.val (.ref a1)] [(.int (1 : Int32))])) := by
    intro t kt
    refine pre2 t ?_
    refine st3 _ ?_
    show Steps p.tables e below (T3.setTop (mkF m 10 #[.val (.ref a1)] [(.int (1 : Int32))])) _
    refine XS.goto X3.here hx rfl (pc0 := 10) (pc' := 14) rfl (hb hby d11_10) (by decide) (by decide) ?_
    show Steps p.tables e below (T3.setTop (mkF m 14 #[.val (.ref a1)] [(.int (1 : Int32))])) _
    exact kt
  obtain ⟨fs, hr, hrun, hended, hW, hsame⟩ := X3.leave (v := some (.int (1 : Int32))) (fun h => by rw [Bd.returns] at h; cases h)
  refine ⟨_, _, fin _ (pre4 _ ?_), hrun, hended, _, _, rfl, ?_, ⟨_, rfl⟩, hW, hsame.mono (by decide) (by decide)⟩
  · exact retN X3 hx (t := .byte) Bd.returns (by simp) (hb hby d11_14) hr
  · show Qcoder1 Z a1 wC h0 n0 _ T3.heap _
    rw [e3]
    exact ⟨rfl, N0, rfl⟩

theorem d10_0 : decode jdk_42_method_54_code 0 = .ok (.aload_n 0, 1) := by decide +kernel
theorem d10_1 : decode jdk_42_method_54_code 1 = .ok (.getfield 9, 3) := by decide +kernel
theorem d10_4 : decode jdk_42_method_54_code 4 = .ok (.arraylength, 1) := by decide +kernel
theorem d10_5 : decode jdk_42_method_54_code 5 = .ok (.aload_n 0, 1) := by decide +kernel
theorem d10_6 : decode jdk_42_method_54_code 6 = .ok (.invokevirtual 335, 3) := by decide +kernel
theorem d10_9 : decode jdk_42_method_54_code 9 = .ok (.ishr, 1) := by decide +kernel
theorem d10_10 : decode jdk_42_method_54_code 10 = .ok (.ireturn, 1) := by decide +kernel
theorem pn_10 : plainName "java/lang/String" = true := by first | (simp [plainName, overriddenIn]; done) | decide +kernel
theorem pd_8 : parseMethodDescriptor "()B" = some ⟨[], some .byte⟩ := by decide +kernel
theorem ef_length_n4 (m : MethodId) (x0 : Addr) : entryFrame m #[(.ref x0)] 1 = mkF m 0 #[.val (.ref x0)] [] := by first | (simp [entryFrame, mkF, argsToLocals, Value.category]; done) | rfl
def Qlength_n4 (Z : State) (a1 : Addr) (wC : Int32) (vb : Addr) (kb : ClassId) (c0 : Int32) (c1 : Int32) (c2 : Int32) (c3 : Int32) (h0 : Heap) (n0 : Nat) (v : Option Value) (h : Heap) (L : List Loc) : Prop := v = (some (.int (4 : Int32))) ∧ Fr n0 L ∧ h = h0
set_option maxRecDepth 65536 in
set_option maxHeartbeats 40000000 in
theorem rmlength_n4 (l : Launch) (Z : State) (a0 : Array Value) (hw : ∀ d ∈ tables_1, d.before a0 Z = true) (ws : List Jvm.Cond) (a1 : Addr) (wC : Int32) (vb : Addr) (kb : ClassId) (c0 : Int32) (c1 : Int32) (c2 : Int32) (c3 : Int32) (h0 : Heap) (n0 : Nat) (Z0 : n0 ≤ h0.size) (O0 : Old Z n0 h0) (SC : Sta Z Z.heap "java/lang/String" "COMPACT_STRINGS" "Z" (.int wC)) (hC : (¬ wC = (0 : Int32))) (hS : own_Str Z h0 a1 vb kb [c0, c1, c2, c3]) :
    MetFree l (⟨"java/lang/String", "length", "()I"⟩ : MethodName) (head1 (Jvm.Cond.code (⟨"java/lang/String", "length", "()I"⟩ : MethodName) jdk_42_method_54_code 1 (some .int) :: ws) ({ frames := 1, cells := 0, slots := 0, locals := 13 } : Room)) (fun a U => a = #[(.ref a1)] ∧ Z.Warmed39 U.vm ∧ U.heap = h0) (fun _ _ _ _ _ => True) (fun _ U o U' => ∃ v L, o = .returned v ∧ Qlength_n4 Z a1 wC vb kb c0 c1 c2 c3 h0 n0 v U'.heap L ∧ FrameEnd U o U' L ({ frames := 1, cells := 0, slots := 0, locals := 13 } : Room).cells ({ frames := 1, cells := 0, slots := 0, locals := 13 } : Room).slots) := by
  refine MetFree.of_bodySF (plainFor_of_name pn_10) hisR ?_
  intro p e s m args below meth c s₁ Bd hml0 hP hK
  obtain ⟨rfl, hZ, hh⟩ := hP
  have hx := Bd.exec
  have hby := Bd.bytes
  have hml : c.maxLocals = 1 := hml0
  have hown0 := findClass_of_methodNamed Bd.named
  have hown : s.vm.findClass "java/lang/String" = some m.cls := hown0
  have hnm := (name_of_methodNamed Bd.named Bd.method).1
  have X0 : Stand p l e ({ frames := 1, cells := 0, slots := 0, locals := 13 } : Room) s m #[(.ref a1)] below meth c s₁ [] 0 0 := Stand.of_body Bd
  have e0 : s₁.heap = h0 := by rw [← hh, Bd.state]; rfl
  have N0 := Fr.nil n0
  obtain ⟨S0, hS0⟩ : ∃ z, z = s₁.setTop (entryFrame m #[(.ref a1)] 1) := ⟨_, rfl⟩
  have pre0 : own_Go p e below S0 (s₁.setTop (mkF m 0 #[.val (.ref a1)] [])) := fun t k => by rw [hS0]; exact castTop (ef_length_n4 m a1) k
  have fin : ∀ t, Steps p.tables e below S0 t → Steps p.tables e below (s₁.setTop (entryFrame m #[(.ref a1)] 1)) t := fun t k => by rw [hS0] at k; exact k
  obtain ⟨oE, oV, ⟨oK, oL, oA⟩ | ⟨oK, oL, oA⟩⟩ := hS
  · have oB : Arv Z h0 vb kb .byte (4 : Int32) [(.int (nar .byte (c0.toInt8.toInt32))), (.int (nar .byte (c1.toInt8.toInt32))), (.int (nar .byte (c2.toInt8.toInt32))), (.int (nar .byte (c3.toInt8.toInt32)))] (.int (0 : Int32)) := oA
    have pre1 : own_Go p e below S0 (s₁.setTop (mkF m 1 #[.val (.ref a1)] [(.ref a1)])) := by
      intro t kt
      refine pre0 t ?_
      refine XS.aloadN X0.here hx rfl (hb hby d10_0) rfl rfl ?_
      show Steps p.tables e below (s₁.setTop (mkF m 1 #[.val (.ref a1)] [(.ref a1)])) _
      exact kt
    obtain ⟨T2, X2, e2, st2⟩ := getF X0 hx hZ hown (host := "") (Or.inl (hw _ (own_w 55 rfl))) Via.refl e0 oV (g := (mkF m 1 #[.val (.ref a1)] [(.ref a1)])) rfl rfl (hb hby d10_1)
    have pre3 : own_Go p e below S0 (T2.setTop (mkF m 4 #[.val (.ref a1)] [(.ref vb)])) := by
      intro t kt
      refine pre1 t ?_
      refine st2 _ ?_
      show Steps p.tables e below (T2.setTop (mkF m 4 #[.val (.ref a1)] [(.ref vb)])) _
      exact kt
    obtain ⟨cl4, Ar4, -, Sz4, Ng4, -, -⟩ := id oB
    have pre5 : own_Go p e below S0 (T2.setTop (mkF m 6 #[.val (.ref a1)] [(.ref a1), (.int (4 : Int32))])) := by
      intro t kt
      refine pre3 t ?_
      refine X2.arraylength hx (by rw [e2]; exact Ar4.1) (State.isArrayOf_alike hZ.alike Ar4.2.1) (g := (mkF m 4 #[.val (.ref a1)] [(.ref vb)])) rfl rfl (hb hby d10_4) _ ?_
      rw [len_of Sz4 Ng4]
      show Steps p.tables e below (T2.setTop (mkF m 5 #[.val (.ref a1)] [(.int (4 : Int32))])) _
      refine XS.aloadN X2.here hx rfl (hb hby d10_5) rfl rfl ?_
      show Steps p.tables e below (T2.setTop (mkF m 6 #[.val (.ref a1)] [(.ref a1), (.int (4 : Int32))])) _
      exact kt
    obtain ⟨cq6, kq6, qa6, qb6, qc6⟩ := isOf hZ e2 oE
    obtain ⟨_, _, ⟨T6, L6, k6, n6⟩, -, X6, ⟨Lc6, hQ6, l6, y6, z6⟩, st6⟩ := X2.virtualBack hx (y := (⟨"java/lang/String", "coder", "()B"⟩ : MethodName)) (z := (⟨"java/lang/String", "coder", "()B"⟩ : MethodName)) hown (mvT hZ (hw _ (own_w 62 rfl))) (mvT hZ (hw _ (own_w 63 rfl))) (notFace_of_selects (args := #[]) (mvT hZ (hw _ (own_w 65 rfl)))) (mvT hZ (hw _ (own_w 65 rfl))) (mvT hZ (hw _ (own_w 64 rfl))) (by decide) (backOf (W := 1) (rmcoder0 l Z a0 hw [] a1 wC h0 n0 Z0 O0 SC hC oK) hZ (hw _ (own_w 66 rfl)) (hw _ (own_w 31 rfl)) (by decide) (by decide)) qa6 qc6 (g := (mkF m 6 #[.val (.ref a1)] [(.ref a1), (.int (4 : Int32))])) rfl (by rw [hml]; rfl) (Steps.refl _) (argsL := []) (rest := [(.int (4 : Int32))]) (lenOf pd_8 rfl) rfl (by show 2 * 0 + _ ≤ _; exact Nat.le_of_eq rfl) (hb hby d10_6) (fun _ _ => ⟨rfl, e2, (by decide : 0 + 0 ≤ _), (by decide : 0 + 0 ≤ _)⟩)
    dsimp only [Pt.U, Pt.locs, Pt.cells, Pt.slots] at X6 l6 y6 z6 st6 hQ6
    subst l6 y6 z6
    obtain ⟨rfl, Nq6, eq6⟩ := hQ6
    have N6 := Fr.app N0 Nq6
    have pre7 : own_Go p e below S0 (T6.setTop (mkF m 10 #[.val (.ref a1)] [(.int (4 : Int32))])) := by
      intro t kt
      refine pre5 t ?_
      refine st6.trans ?_
      show Steps p.tables e below (T6.setTop (mkF m 9 #[.val (.ref a1)] [(.int (0 : Int32)), (.int (4 : Int32))])) _
      refine XS.ishr X6.here hx rfl (hb hby d10_9) rfl ?_
      show Steps p.tables e below (T6.setTop (mkF m 10 #[.val (.ref a1)] [(.int (4 : Int32))])) _
      exact kt
    obtain ⟨fs, hr, hrun, hended, hW, hsame⟩ := X6.leave (v := some (.int (4 : Int32))) (fun h => by rw [Bd.returns] at h; cases h)
    refine ⟨_, _, fin _ (pre7 _ ?_), hrun, hended, _, _, rfl, ?_, ⟨_, rfl⟩, hW, hsame.mono (by decide) (by decide)⟩
    · exact retI X6 hx Bd.returns (hb hby d10_10) hr
    · show Qlength_n4 Z a1 wC vb kb c0 c1 c2 c3 h0 n0 _ T6.heap _
      rw [eq6]
      exact ⟨rfl, N6, rfl⟩
  · have oB : Arv Z h0 vb kb .byte (8 : Int32) [(.int (nar .byte ((c0 >>> ((0 : Int32) &&& 31)).toInt8.toInt32))), (.int (nar .byte ((c0 >>> ((8 : Int32) &&& 31)).toInt8.toInt32))), (.int (nar .byte ((c1 >>> ((0 : Int32) &&& 31)).toInt8.toInt32))), (.int (nar .byte ((c1 >>> ((8 : Int32) &&& 31)).toInt8.toInt32))), (.int (nar .byte ((c2 >>> ((0 : Int32) &&& 31)).toInt8.toInt32))), (.int (nar .byte ((c2 >>> ((8 : Int32) &&& 31)).toInt8.toInt32))), (.int (nar .byte ((c3 >>> ((0 : Int32) &&& 31)).toInt8.toInt32))), (.int (nar .byte ((c3 >>> ((8 : Int32) &&& 31)).toInt8.toInt32)))] (.int (0 : Int32)) := oA
    have pre8 : own_Go p e below S0 (s₁.setTop (mkF m 1 #[.val (.ref a1)] [(.ref a1)])) := by
      intro t kt
      refine pre0 t ?_
      refine XS.aloadN X0.here hx rfl (hb hby d10_0) rfl rfl ?_
      show Steps p.tables e below (s₁.setTop (mkF m 1 #[.val (.ref a1)] [(.ref a1)])) _
      exact kt
    obtain ⟨T9, X9, e9, st9⟩ := getF X0 hx hZ hown (host := "") (Or.inl (hw _ (own_w 55 rfl))) Via.refl e0 oV (g := (mkF m 1 #[.val (.ref a1)] [(.ref a1)])) rfl rfl (hb hby d10_1)
    have pre10 : own_Go p e below S0 (T9.setTop (mkF m 4 #[.val (.ref a1)] [(.ref vb)])) := by
      intro t kt
      refine pre8 t ?_
      refine st9 _ ?_
      show Steps p.tables e below (T9.setTop (mkF m 4 #[.val (.ref a1)] [(.ref vb)])) _
      exact kt
    obtain ⟨cl11, Ar11, -, Sz11, Ng11, -, -⟩ := id oB
    have pre12 : own_Go p e below S0 (T9.setTop (mkF m 6 #[.val (.ref a1)] [(.ref a1), (.int (8 : Int32))])) := by
      intro t kt
      refine pre10 t ?_
      refine X9.arraylength hx (by rw [e9]; exact Ar11.1) (State.isArrayOf_alike hZ.alike Ar11.2.1) (g := (mkF m 4 #[.val (.ref a1)] [(.ref vb)])) rfl rfl (hb hby d10_4) _ ?_
      rw [len_of Sz11 Ng11]
      show Steps p.tables e below (T9.setTop (mkF m 5 #[.val (.ref a1)] [(.int (8 : Int32))])) _
      refine XS.aloadN X9.here hx rfl (hb hby d10_5) rfl rfl ?_
      show Steps p.tables e below (T9.setTop (mkF m 6 #[.val (.ref a1)] [(.ref a1), (.int (8 : Int32))])) _
      exact kt
    obtain ⟨cq13, kq13, qa13, qb13, qc13⟩ := isOf hZ e9 oE
    obtain ⟨_, _, ⟨T13, L13, k13, n13⟩, -, X13, ⟨Lc13, hQ13, l13, y13, z13⟩, st13⟩ := X9.virtualBack hx (y := (⟨"java/lang/String", "coder", "()B"⟩ : MethodName)) (z := (⟨"java/lang/String", "coder", "()B"⟩ : MethodName)) hown (mvT hZ (hw _ (own_w 62 rfl))) (mvT hZ (hw _ (own_w 63 rfl))) (notFace_of_selects (args := #[]) (mvT hZ (hw _ (own_w 65 rfl)))) (mvT hZ (hw _ (own_w 65 rfl))) (mvT hZ (hw _ (own_w 64 rfl))) (by decide) (backOf (W := 1) (rmcoder1 l Z a0 hw [] a1 wC h0 n0 Z0 O0 SC hC oK) hZ (hw _ (own_w 66 rfl)) (hw _ (own_w 31 rfl)) (by decide) (by decide)) qa13 qc13 (g := (mkF m 6 #[.val (.ref a1)] [(.ref a1), (.int (8 : Int32))])) rfl (by rw [hml]; rfl) (Steps.refl _) (argsL := []) (rest := [(.int (8 : Int32))]) (lenOf pd_8 rfl) rfl (by show 2 * 0 + _ ≤ _; exact Nat.le_of_eq rfl) (hb hby d10_6) (fun _ _ => ⟨rfl, e9, (by decide : 0 + 0 ≤ _), (by decide : 0 + 0 ≤ _)⟩)
    dsimp only [Pt.U, Pt.locs, Pt.cells, Pt.slots] at X13 l13 y13 z13 st13 hQ13
    subst l13 y13 z13
    obtain ⟨rfl, Nq13, eq13⟩ := hQ13
    have N13 := Fr.app N0 Nq13
    have pre14 : own_Go p e below S0 (T13.setTop (mkF m 10 #[.val (.ref a1)] [(.int (4 : Int32))])) := by
      intro t kt
      refine pre12 t ?_
      refine st13.trans ?_
      show Steps p.tables e below (T13.setTop (mkF m 9 #[.val (.ref a1)] [(.int (1 : Int32)), (.int (8 : Int32))])) _
      refine XS.ishr X13.here hx rfl (hb hby d10_9) rfl ?_
      show Steps p.tables e below (T13.setTop (mkF m 10 #[.val (.ref a1)] [(.int (4 : Int32))])) _
      exact kt
    obtain ⟨fs, hr, hrun, hended, hW, hsame⟩ := X13.leave (v := some (.int (4 : Int32))) (fun h => by rw [Bd.returns] at h; cases h)
    refine ⟨_, _, fin _ (pre14 _ ?_), hrun, hended, _, _, rfl, ?_, ⟨_, rfl⟩, hW, hsame.mono (by decide) (by decide)⟩
    · exact retI X13 hx Bd.returns (hb hby d10_10) hr
    · show Qlength_n4 Z a1 wC vb kb c0 c1 c2 c3 h0 n0 _ T13.heap _
      rw [eq13]
      exact ⟨rfl, N13, rfl⟩

theorem d13_0 : decode jdk_42_method_154_code 0 = .ok (.getstatic 38, 3) := by decide +kernel
theorem d13_3 : decode jdk_42_method_154_code 3 = .ok (.ifCond .eq 14, 3) := by decide +kernel
theorem d13_6 : decode jdk_42_method_154_code 6 = .ok (.aload_n 0, 1) := by decide +kernel
theorem d13_7 : decode jdk_42_method_154_code 7 = .ok (.getfield 15, 3) := by decide +kernel
theorem d13_10 : decode jdk_42_method_154_code 10 = .ok (.ifCond .ne 7, 3) := by decide +kernel
theorem d13_13 : decode jdk_42_method_154_code 13 = .ok (.iconst 1, 1) := by decide +kernel
theorem d13_14 : decode jdk_42_method_154_code 14 = .ok (.goto 4, 3) := by decide +kernel
theorem d13_18 : decode jdk_42_method_154_code 18 = .ok (.ireturn, 1) := by decide +kernel
theorem pn_13 : plainName "java/lang/String" = true := by first | (simp [plainName, overriddenIn]; done) | decide +kernel
theorem ef_isLat0 (m : MethodId) (x0 : Addr) : entryFrame m #[(.ref x0)] 1 = mkF m 0 #[.val (.ref x0)] [] := by first | (simp [entryFrame, mkF, argsToLocals, Value.category]; done) | rfl
def QisLat0 (Z : State) (a1 : Addr) (wC : Int32) (h0 : Heap) (n0 : Nat) (v : Option Value) (h : Heap) (L : List Loc) : Prop := v = (some (.int (1 : Int32))) ∧ Fr n0 L ∧ h = h0
set_option maxRecDepth 65536 in
set_option maxHeartbeats 40000000 in
theorem rmisLat0 (l : Launch) (Z : State) (a0 : Array Value) (hw : ∀ d ∈ tables_1, d.before a0 Z = true) (ws : List Jvm.Cond) (a1 : Addr) (wC : Int32) (h0 : Heap) (n0 : Nat) (Z0 : n0 ≤ h0.size) (O0 : Old Z n0 h0) (SC : Sta Z Z.heap "java/lang/String" "COMPACT_STRINGS" "Z" (.int wC)) (hC : (¬ wC = (0 : Int32))) (FC : Fld Z h0 a1 "java/lang/String" "coder" "B" (.int (0 : Int32))) :
    MetFree l (⟨"java/lang/String", "isLatin1", "()Z"⟩ : MethodName) (head1 (Jvm.Cond.code (⟨"java/lang/String", "isLatin1", "()Z"⟩ : MethodName) jdk_42_method_154_code 1 (some .boolean) :: ws) ({ frames := 0, cells := 0, slots := 0, locals := 0 } : Room)) (fun a U => a = #[(.ref a1)] ∧ Z.Warmed39 U.vm ∧ U.heap = h0) (fun _ _ _ _ _ => True) (fun _ U o U' => ∃ v L, o = .returned v ∧ QisLat0 Z a1 wC h0 n0 v U'.heap L ∧ FrameEnd U o U' L ({ frames := 0, cells := 0, slots := 0, locals := 0 } : Room).cells ({ frames := 0, cells := 0, slots := 0, locals := 0 } : Room).slots) := by
  refine MetFree.of_bodySF (plainFor_of_name pn_13) hisR ?_
  intro p e s m args below meth c s₁ Bd hml0 hP hK
  obtain ⟨rfl, hZ, hh⟩ := hP
  have hx := Bd.exec
  have hby := Bd.bytes
  have hml : c.maxLocals = 1 := hml0
  have hown0 := findClass_of_methodNamed Bd.named
  have hown : s.vm.findClass "java/lang/String" = some m.cls := hown0
  have hnm := (name_of_methodNamed Bd.named Bd.method).1
  have X0 : Stand p l e ({ frames := 0, cells := 0, slots := 0, locals := 0 } : Room) s m #[(.ref a1)] below meth c s₁ [] 0 0 := Stand.of_body Bd
  have e0 : s₁.heap = h0 := by rw [← hh, Bd.state]; rfl
  have N0 := Fr.nil n0
  obtain ⟨S0, hS0⟩ : ∃ z, z = s₁.setTop (entryFrame m #[(.ref a1)] 1) := ⟨_, rfl⟩
  have pre0 : own_Go p e below S0 (s₁.setTop (mkF m 0 #[.val (.ref a1)] [])) := fun t k => by rw [hS0]; exact castTop (ef_isLat0 m a1) k
  have fin : ∀ t, Steps p.tables e below S0 t → Steps p.tables e below (s₁.setTop (entryFrame m #[(.ref a1)] 1)) t := fun t k => by rw [hS0] at k; exact k
  obtain ⟨T1, X1, e1, st1⟩ := getS2 X0 hx hZ hown (host := "") (Or.inl (hw _ (own_w 41 rfl))) Via.refl e0 (SC.ext O0.2) (g := (mkF m 0 #[.val (.ref a1)] [])) rfl (hb hby d13_0)
  have pre2 : own_Go p e below S0 (T1.setTop (mkF m 7 #[.val (.ref a1)] [(.ref a1)])) := by
    intro t kt
    refine pre0 t ?_
    refine st1 _ ?_
    show Steps p.tables e below (T1.setTop (mkF m 3 #[.val (.ref a1)] [(.int wC)])) _
    refine XS.ifNo X1.here hx rfl (hb hby d13_3) rfl ((if0 _ _).trans (feq hC).1) ?_
    show Steps p.tables e below (T1.setTop (mkF m 6 #[.val (.ref a1)] [])) _
    refine XS.aloadN X1.here hx rfl (hb hby d13_6) rfl rfl ?_
    show Steps p.tables e below (T1.setTop (mkF m 7 #[.val (.ref a1)] [(.ref a1)])) _
    exact kt
  obtain ⟨T3, X3, e3, st3⟩ := getF X1 hx hZ hown (host := "") (Or.inl (hw _ (own_w 53 rfl))) Via.refl e1 FC (g := (mkF m 7 #[.val (.ref a1)] [(.ref a1)])) rfl rfl (hb hby d13_7)
  have pre4 : own_Go p e below S0 (T3.setTop (mkF m 18 #[.val (.ref a1)] [(.int (1 : Int32))])) := by
    intro t kt
    refine pre2 t ?_
    refine st3 _ ?_
    show Steps p.tables e below (T3.setTop (mkF m 10 #[.val (.ref a1)] [(.int (0 : Int32))])) _
    refine XS.ifNo X3.here hx rfl (hb hby d13_10) rfl ((if0 _ _).trans (teq (by decide : (0 : Int32) = (0 : Int32))).2) ?_
    show Steps p.tables e below (T3.setTop (mkF m 13 #[.val (.ref a1)] [])) _
    refine XS.iconst X3.here hx rfl (hb hby d13_13) ?_
    show Steps p.tables e below (T3.setTop (mkF m 14 #[.val (.ref a1)] [(.int (1 : Int32))])) _
    refine XS.goto X3.here hx rfl (pc0 := 14) (pc' := 18) rfl (hb hby d13_14) (by decide) (by decide) ?_
    show Steps p.tables e below (T3.setTop (mkF m 18 #[.val (.ref a1)] [(.int (1 : Int32))])) _
    exact kt
  obtain ⟨fs, hr, hrun, hended, hW, hsame⟩ := X3.leave (v := some (.int (1 : Int32))) (fun h => by rw [Bd.returns] at h; cases h)
  refine ⟨_, _, fin _ (pre4 _ ?_), hrun, hended, _, _, rfl, ?_, ⟨_, rfl⟩, hW, hsame.mono (by decide) (by decide)⟩
  · exact retN X3 hx (t := .boolean) Bd.returns (by simp) (hb hby d13_18) hr
  · show QisLat0 Z a1 wC h0 n0 _ T3.heap _
    rw [e3]
    exact ⟨rfl, N0, rfl⟩

theorem d13_17 : decode jdk_42_method_154_code 17 = .ok (.iconst 0, 1) := by decide +kernel
theorem ef_isLat1 (m : MethodId) (x0 : Addr) : entryFrame m #[(.ref x0)] 1 = mkF m 0 #[.val (.ref x0)] [] := by first | (simp [entryFrame, mkF, argsToLocals, Value.category]; done) | rfl
def QisLat1 (Z : State) (a1 : Addr) (wC : Int32) (h0 : Heap) (n0 : Nat) (v : Option Value) (h : Heap) (L : List Loc) : Prop := v = (some (.int (0 : Int32))) ∧ Fr n0 L ∧ h = h0
set_option maxRecDepth 65536 in
set_option maxHeartbeats 40000000 in
theorem rmisLat1 (l : Launch) (Z : State) (a0 : Array Value) (hw : ∀ d ∈ tables_1, d.before a0 Z = true) (ws : List Jvm.Cond) (a1 : Addr) (wC : Int32) (h0 : Heap) (n0 : Nat) (Z0 : n0 ≤ h0.size) (O0 : Old Z n0 h0) (SC : Sta Z Z.heap "java/lang/String" "COMPACT_STRINGS" "Z" (.int wC)) (hC : (¬ wC = (0 : Int32))) (FC : Fld Z h0 a1 "java/lang/String" "coder" "B" (.int (1 : Int32))) :
    MetFree l (⟨"java/lang/String", "isLatin1", "()Z"⟩ : MethodName) (head1 (Jvm.Cond.code (⟨"java/lang/String", "isLatin1", "()Z"⟩ : MethodName) jdk_42_method_154_code 1 (some .boolean) :: ws) ({ frames := 0, cells := 0, slots := 0, locals := 0 } : Room)) (fun a U => a = #[(.ref a1)] ∧ Z.Warmed39 U.vm ∧ U.heap = h0) (fun _ _ _ _ _ => True) (fun _ U o U' => ∃ v L, o = .returned v ∧ QisLat1 Z a1 wC h0 n0 v U'.heap L ∧ FrameEnd U o U' L ({ frames := 0, cells := 0, slots := 0, locals := 0 } : Room).cells ({ frames := 0, cells := 0, slots := 0, locals := 0 } : Room).slots) := by
  refine MetFree.of_bodySF (plainFor_of_name pn_13) hisR ?_
  intro p e s m args below meth c s₁ Bd hml0 hP hK
  obtain ⟨rfl, hZ, hh⟩ := hP
  have hx := Bd.exec
  have hby := Bd.bytes
  have hml : c.maxLocals = 1 := hml0
  have hown0 := findClass_of_methodNamed Bd.named
  have hown : s.vm.findClass "java/lang/String" = some m.cls := hown0
  have hnm := (name_of_methodNamed Bd.named Bd.method).1
  have X0 : Stand p l e ({ frames := 0, cells := 0, slots := 0, locals := 0 } : Room) s m #[(.ref a1)] below meth c s₁ [] 0 0 := Stand.of_body Bd
  have e0 : s₁.heap = h0 := by rw [← hh, Bd.state]; rfl
  have N0 := Fr.nil n0
  obtain ⟨S0, hS0⟩ : ∃ z, z = s₁.setTop (entryFrame m #[(.ref a1)] 1) := ⟨_, rfl⟩
  have pre0 : own_Go p e below S0 (s₁.setTop (mkF m 0 #[.val (.ref a1)] [])) := fun t k => by rw [hS0]; exact castTop (ef_isLat1 m a1) k
  have fin : ∀ t, Steps p.tables e below S0 t → Steps p.tables e below (s₁.setTop (entryFrame m #[(.ref a1)] 1)) t := fun t k => by rw [hS0] at k; exact k
  obtain ⟨T1, X1, e1, st1⟩ := getS2 X0 hx hZ hown (host := "") (Or.inl (hw _ (own_w 41 rfl))) Via.refl e0 (SC.ext O0.2) (g := (mkF m 0 #[.val (.ref a1)] [])) rfl (hb hby d13_0)
  have pre2 : own_Go p e below S0 (T1.setTop (mkF m 7 #[.val (.ref a1)] [(.ref a1)])) := by
    intro t kt
    refine pre0 t ?_
    refine st1 _ ?_
    show Steps p.tables e below (T1.setTop (mkF m 3 #[.val (.ref a1)] [(.int wC)])) _
    refine XS.ifNo X1.here hx rfl (hb hby d13_3) rfl ((if0 _ _).trans (feq hC).1) ?_
    show Steps p.tables e below (T1.setTop (mkF m 6 #[.val (.ref a1)] [])) _
    refine XS.aloadN X1.here hx rfl (hb hby d13_6) rfl rfl ?_
    show Steps p.tables e below (T1.setTop (mkF m 7 #[.val (.ref a1)] [(.ref a1)])) _
    exact kt
  obtain ⟨T3, X3, e3, st3⟩ := getF X1 hx hZ hown (host := "") (Or.inl (hw _ (own_w 53 rfl))) Via.refl e1 FC (g := (mkF m 7 #[.val (.ref a1)] [(.ref a1)])) rfl rfl (hb hby d13_7)
  have pre4 : own_Go p e below S0 (T3.setTop (mkF m 18 #[.val (.ref a1)] [(.int (0 : Int32))])) := by
    intro t kt
    refine pre2 t ?_
    refine st3 _ ?_
    show Steps p.tables e below (T3.setTop (mkF m 10 #[.val (.ref a1)] [(.int (1 : Int32))])) _
    refine XS.ifYes X3.here hx rfl (pc0 := 10) (pc' := 17) rfl (hb hby d13_10) rfl ((if0 _ _).trans (feq (by decide : ¬ ((1 : Int32) = (0 : Int32)))).2) (by decide) (by decide) ?_
    show Steps p.tables e below (T3.setTop (mkF m 17 #[.val (.ref a1)] [])) _
    refine XS.iconst X3.here hx rfl (hb hby d13_17) ?_
    show Steps p.tables e below (T3.setTop (mkF m 18 #[.val (.ref a1)] [(.int (0 : Int32))])) _
    exact kt
  obtain ⟨fs, hr, hrun, hended, hW, hsame⟩ := X3.leave (v := some (.int (0 : Int32))) (fun h => by rw [Bd.returns] at h; cases h)
  refine ⟨_, _, fin _ (pre4 _ ?_), hrun, hended, _, _, rfl, ?_, ⟨_, rfl⟩, hW, hsame.mono (by decide) (by decide)⟩
  · exact retN X3 hx (t := .boolean) Bd.returns (by simp) (hb hby d13_18) hr
  · show QisLat1 Z a1 wC h0 n0 _ T3.heap _
    rw [e3]
    exact ⟨rfl, N0, rfl⟩

theorem d16_0 : decode jdk_41_method_11_code 0 = .ok (.iload_n 0, 1) := by decide +kernel
theorem d16_1 : decode jdk_41_method_11_code 1 = .ok (.ifCond .lt 8, 3) := by decide +kernel
theorem d16_4 : decode jdk_41_method_11_code 4 = .ok (.iload_n 0, 1) := by decide +kernel
theorem d16_5 : decode jdk_41_method_11_code 5 = .ok (.iload_n 1, 1) := by decide +kernel
theorem d16_6 : decode jdk_41_method_11_code 6 = .ok (.if_icmp .lt 10, 3) := by decide +kernel
theorem d16_16 : decode jdk_41_method_11_code 16 = .ok (.iload_n 0, 1) := by decide +kernel
theorem d16_17 : decode jdk_41_method_11_code 17 = .ok (.ireturn, 1) := by decide +kernel
theorem pn_16 : plainName "jdk/internal/util/Preconditions" = true := by first | (simp [plainName, overriddenIn]; done) | decide +kernel
theorem ef_pck_n (m : MethodId) (x0 : Int32) (x1 : Int32) : entryFrame m #[(.int x0), (.int x1), .null] 3 = mkF m 0 #[.val (.int x0), .val (.int x1), .val .null] [] := by first | (simp [entryFrame, mkF, argsToLocals, Value.category]; done) | rfl
def Qpck_n (Z : State) (p1 : Int32) (p2 : Int32) (h0 : Heap) (n0 : Nat) (v : Option Value) (h : Heap) (L : List Loc) : Prop := v = (some (.int p1)) ∧ Fr n0 L ∧ h = h0
set_option maxRecDepth 65536 in
set_option maxHeartbeats 40000000 in
theorem rmpck_n (l : Launch) (Z : State) (a0 : Array Value) (hw : ∀ d ∈ tables_1, d.before a0 Z = true) (ws : List Jvm.Cond) (p1 : Int32) (p2 : Int32) (h0 : Heap) (n0 : Nat) (Z0 : n0 ≤ h0.size) (h1 : (¬ p1 < (0 : Int32))) (h2 : (p1 < p2)) :
    MetFree l (⟨"jdk/internal/util/Preconditions", "checkIndex", "(IILjava/util/function/BiFunction;)I"⟩ : MethodName) (head1 (Jvm.Cond.code (⟨"jdk/internal/util/Preconditions", "checkIndex", "(IILjava/util/function/BiFunction;)I"⟩ : MethodName) jdk_41_method_11_code 3 (some .int) :: ws) ({ frames := 0, cells := 0, slots := 0, locals := 0 } : Room)) (fun a U => a = #[(.int p1), (.int p2), .null] ∧ Z.Warmed39 U.vm ∧ U.heap = h0) (fun _ _ _ _ _ => True) (fun _ U o U' => ∃ v L, o = .returned v ∧ Qpck_n Z p1 p2 h0 n0 v U'.heap L ∧ FrameEnd U o U' L ({ frames := 0, cells := 0, slots := 0, locals := 0 } : Room).cells ({ frames := 0, cells := 0, slots := 0, locals := 0 } : Room).slots) := by
  refine MetFree.of_bodySF (plainFor_of_name pn_16) hisR ?_
  intro p e s m args below meth c s₁ Bd hml0 hP hK
  obtain ⟨rfl, hZ, hh⟩ := hP
  have hx := Bd.exec
  have hby := Bd.bytes
  have hml : c.maxLocals = 3 := hml0
  have hown0 := findClass_of_methodNamed Bd.named
  have hown : s.vm.findClass "jdk/internal/util/Preconditions" = some m.cls := hown0
  have hnm := (name_of_methodNamed Bd.named Bd.method).1
  have X0 : Stand p l e ({ frames := 0, cells := 0, slots := 0, locals := 0 } : Room) s m #[(.int p1), (.int p2), .null] below meth c s₁ [] 0 0 := Stand.of_body Bd
  have e0 : s₁.heap = h0 := by rw [← hh, Bd.state]; rfl
  have N0 := Fr.nil n0
  obtain ⟨S0, hS0⟩ : ∃ z, z = s₁.setTop (entryFrame m #[(.int p1), (.int p2), .null] 3) := ⟨_, rfl⟩
  have pre0 : own_Go p e below S0 (s₁.setTop (mkF m 0 #[.val (.int p1), .val (.int p2), .val .null] [])) := fun t k => by rw [hS0]; exact castTop (ef_pck_n m p1 p2) k
  have fin : ∀ t, Steps p.tables e below S0 t → Steps p.tables e below (s₁.setTop (entryFrame m #[(.int p1), (.int p2), .null] 3)) t := fun t k => by rw [hS0] at k; exact k
  have pre1 : own_Go p e below S0 (s₁.setTop (mkF m 17 #[.val (.int p1), .val (.int p2), .val .null] [(.int p1)])) := by
    intro t kt
    refine pre0 t ?_
    refine XS.iloadN X0.here hx rfl (hb hby d16_0) rfl ?_
    show Steps p.tables e below (s₁.setTop (mkF m 1 #[.val (.int p1), .val (.int p2), .val .null] [(.int p1)])) _
    refine XS.ifNo X0.here hx rfl (hb hby d16_1) rfl ((if0 _ _).trans (flt h1).1) ?_
    show Steps p.tables e below (s₁.setTop (mkF m 4 #[.val (.int p1), .val (.int p2), .val .null] [])) _
    refine XS.iloadN X0.here hx rfl (hb hby d16_4) rfl ?_
    show Steps p.tables e below (s₁.setTop (mkF m 5 #[.val (.int p1), .val (.int p2), .val .null] [(.int p1)])) _
    refine XS.iloadN X0.here hx rfl (hb hby d16_5) rfl ?_
    show Steps p.tables e below (s₁.setTop (mkF m 6 #[.val (.int p1), .val (.int p2), .val .null] [(.int p2), (.int p1)])) _
    refine XS.icmpYes X0.here hx rfl (pc0 := 6) (pc' := 16) rfl (hb hby d16_6) rfl (tlt h2).1 (by decide) (by decide) ?_
    show Steps p.tables e below (s₁.setTop (mkF m 16 #[.val (.int p1), .val (.int p2), .val .null] [])) _
    refine XS.iloadN X0.here hx rfl (hb hby d16_16) rfl ?_
    show Steps p.tables e below (s₁.setTop (mkF m 17 #[.val (.int p1), .val (.int p2), .val .null] [(.int p1)])) _
    exact kt
  obtain ⟨fs, hr, hrun, hended, hW, hsame⟩ := X0.leave (v := some (.int p1)) (fun h => by rw [Bd.returns] at h; cases h)
  refine ⟨_, _, fin _ (pre1 _ ?_), hrun, hended, _, _, rfl, ?_, ⟨_, rfl⟩, hW, hsame.mono (by decide) (by decide)⟩
  · exact retI X0 hx Bd.returns (hb hby d16_17) hr
  · show Qpck_n Z p1 p2 h0 n0 _ s₁.heap _
    rw [e0]
    exact ⟨rfl, N0, rfl⟩

theorem ef_pck_r (m : MethodId) (x0 : Int32) (x1 : Int32) (x2 : Addr) : entryFrame m #[(.int x0), (.int x1), (.ref x2)] 3 = mkF m 0 #[.val (.int x0), .val (.int x1), .val (.ref x2)] [] := by first | (simp [entryFrame, mkF, argsToLocals, Value.category]; done) | rfl
def Qpck_r (Z : State) (p1 : Int32) (p2 : Int32) (a3 : Addr) (h0 : Heap) (n0 : Nat) (v : Option Value) (h : Heap) (L : List Loc) : Prop := v = (some (.int p1)) ∧ Fr n0 L ∧ h = h0
set_option maxRecDepth 65536 in
set_option maxHeartbeats 40000000 in
theorem rmpck_r (l : Launch) (Z : State) (a0 : Array Value) (hw : ∀ d ∈ tables_1, d.before a0 Z = true) (ws : List Jvm.Cond) (p1 : Int32) (p2 : Int32) (a3 : Addr) (h0 : Heap) (n0 : Nat) (Z0 : n0 ≤ h0.size) (h1 : (¬ p1 < (0 : Int32))) (h2 : (p1 < p2)) :
    MetFree l (⟨"jdk/internal/util/Preconditions", "checkIndex", "(IILjava/util/function/BiFunction;)I"⟩ : MethodName) (head1 (Jvm.Cond.code (⟨"jdk/internal/util/Preconditions", "checkIndex", "(IILjava/util/function/BiFunction;)I"⟩ : MethodName) jdk_41_method_11_code 3 (some .int) :: ws) ({ frames := 0, cells := 0, slots := 0, locals := 0 } : Room)) (fun a U => a = #[(.int p1), (.int p2), (.ref a3)] ∧ Z.Warmed39 U.vm ∧ U.heap = h0) (fun _ _ _ _ _ => True) (fun _ U o U' => ∃ v L, o = .returned v ∧ Qpck_r Z p1 p2 a3 h0 n0 v U'.heap L ∧ FrameEnd U o U' L ({ frames := 0, cells := 0, slots := 0, locals := 0 } : Room).cells ({ frames := 0, cells := 0, slots := 0, locals := 0 } : Room).slots) := by
  refine MetFree.of_bodySF (plainFor_of_name pn_16) hisR ?_
  intro p e s m args below meth c s₁ Bd hml0 hP hK
  obtain ⟨rfl, hZ, hh⟩ := hP
  have hx := Bd.exec
  have hby := Bd.bytes
  have hml : c.maxLocals = 3 := hml0
  have hown0 := findClass_of_methodNamed Bd.named
  have hown : s.vm.findClass "jdk/internal/util/Preconditions" = some m.cls := hown0
  have hnm := (name_of_methodNamed Bd.named Bd.method).1
  have X0 : Stand p l e ({ frames := 0, cells := 0, slots := 0, locals := 0 } : Room) s m #[(.int p1), (.int p2), (.ref a3)] below meth c s₁ [] 0 0 := Stand.of_body Bd
  have e0 : s₁.heap = h0 := by rw [← hh, Bd.state]; rfl
  have N0 := Fr.nil n0
  obtain ⟨S0, hS0⟩ : ∃ z, z = s₁.setTop (entryFrame m #[(.int p1), (.int p2), (.ref a3)] 3) := ⟨_, rfl⟩
  have pre0 : own_Go p e below S0 (s₁.setTop (mkF m 0 #[.val (.int p1), .val (.int p2), .val (.ref a3)] [])) := fun t k => by rw [hS0]; exact castTop (ef_pck_r m p1 p2 a3) k
  have fin : ∀ t, Steps p.tables e below S0 t → Steps p.tables e below (s₁.setTop (entryFrame m #[(.int p1), (.int p2), (.ref a3)] 3)) t := fun t k => by rw [hS0] at k; exact k
  have pre1 : own_Go p e below S0 (s₁.setTop (mkF m 17 #[.val (.int p1), .val (.int p2), .val (.ref a3)] [(.int p1)])) := by
    intro t kt
    refine pre0 t ?_
    refine XS.iloadN X0.here hx rfl (hb hby d16_0) rfl ?_
    show Steps p.tables e below (s₁.setTop (mkF m 1 #[.val (.int p1), .val (.int p2), .val (.ref a3)] [(.int p1)])) _
    refine XS.ifNo X0.here hx rfl (hb hby d16_1) rfl ((if0 _ _).trans (flt h1).1) ?_
    show Steps p.tables e below (s₁.setTop (mkF m 4 #[.val (.int p1), .val (.int p2), .val (.ref a3)] [])) _
    refine XS.iloadN X0.here hx rfl (hb hby d16_4) rfl ?_
    show Steps p.tables e below (s₁.setTop (mkF m 5 #[.val (.int p1), .val (.int p2), .val (.ref a3)] [(.int p1)])) _
    refine XS.iloadN X0.here hx rfl (hb hby d16_5) rfl ?_
    show Steps p.tables e below (s₁.setTop (mkF m 6 #[.val (.int p1), .val (.int p2), .val (.ref a3)] [(.int p2), (.int p1)])) _
    refine XS.icmpYes X0.here hx rfl (pc0 := 6) (pc' := 16) rfl (hb hby d16_6) rfl (tlt h2).1 (by decide) (by decide) ?_
    show Steps p.tables e below (s₁.setTop (mkF m 16 #[.val (.int p1), .val (.int p2), .val (.ref a3)] [])) _
    refine XS.iloadN X0.here hx rfl (hb hby d16_16) rfl ?_
    show Steps p.tables e below (s₁.setTop (mkF m 17 #[.val (.int p1), .val (.int p2), .val (.ref a3)] [(.int p1)])) _
    exact kt
  obtain ⟨fs, hr, hrun, hended, hW, hsame⟩ := X0.leave (v := some (.int p1)) (fun h => by rw [Bd.returns] at h; cases h)
  refine ⟨_, _, fin _ (pre1 _ ?_), hrun, hended, _, _, rfl, ?_, ⟨_, rfl⟩, hW, hsame.mono (by decide) (by decide)⟩
  · exact retI X0 hx Bd.returns (hb hby d16_17) hr
  · show Qpck_r Z p1 p2 a3 h0 n0 _ s₁.heap _
    rw [e0]
    exact ⟨rfl, N0, rfl⟩

theorem d15_0 : decode jdk_42_method_155_code 0 = .ok (.iload_n 0, 1) := by decide +kernel
theorem d15_1 : decode jdk_42_method_155_code 1 = .ok (.iload_n 1, 1) := by decide +kernel
theorem d15_2 : decode jdk_42_method_155_code 2 = .ok (.getstatic 1053, 3) := by decide +kernel
theorem d15_5 : decode jdk_42_method_155_code 5 = .ok (.invokestatic 1059, 3) := by decide +kernel
theorem d15_8 : decode jdk_42_method_155_code 8 = .ok (.pop, 1) := by decide +kernel
theorem d15_9 : decode jdk_42_method_155_code 9 = .ok (.return_, 1) := by decide +kernel
theorem pn_15 : plainName "java/lang/String" = true := by first | (simp [plainName, overriddenIn]; done) | decide +kernel
theorem pd_9 : parseMethodDescriptor "(IILjava/util/function/BiFunction;)I" = some ⟨[.int, .int, (.object "java/util/function/BiFunction")], some .int⟩ := by decide +kernel
theorem ef_sck (m : MethodId) (x0 : Int32) (x1 : Int32) : entryFrame m #[(.int x0), (.int x1)] 2 = mkF m 0 #[.val (.int x0), .val (.int x1)] [] := by first | (simp [entryFrame, mkF, argsToLocals, Value.category]; done) | rfl
def Qsck (Z : State) (p1 : Int32) (p2 : Int32) (wF : Value) (h0 : Heap) (n0 : Nat) (v : Option Value) (h : Heap) (L : List Loc) : Prop := v = none ∧ Fr n0 L ∧ h = h0
set_option maxRecDepth 65536 in
set_option maxHeartbeats 40000000 in
theorem rmsck (l : Launch) (Z : State) (a0 : Array Value) (hw : ∀ d ∈ tables_1, d.before a0 Z = true) (ws : List Jvm.Cond) (p1 : Int32) (p2 : Int32) (wF : Value) (h0 : Heap) (n0 : Nat) (Z0 : n0 ≤ h0.size) (O0 : Old Z n0 h0) (SF : Sta Z Z.heap "jdk/internal/util/Preconditions" "SIOOBE_FORMATTER" "Ljava/util/function/BiFunction;" wF) (hF : (wF.isRef = true)) (h1 : (¬ p1 < (0 : Int32))) (h2 : (p1 < p2)) :
    MetFree l (⟨"java/lang/String", "checkIndex", "(II)V"⟩ : MethodName) (head1 (Jvm.Cond.code (⟨"java/lang/String", "checkIndex", "(II)V"⟩ : MethodName) jdk_42_method_155_code 2 none :: ws) ({ frames := 1, cells := 0, slots := 0, locals := 14 } : Room)) (fun a U => a = #[(.int p1), (.int p2)] ∧ Z.Warmed39 U.vm ∧ U.heap = h0) (fun _ _ _ _ _ => True) (fun _ U o U' => ∃ v L, o = .returned v ∧ Qsck Z p1 p2 wF h0 n0 v U'.heap L ∧ FrameEnd U o U' L ({ frames := 1, cells := 0, slots := 0, locals := 14 } : Room).cells ({ frames := 1, cells := 0, slots := 0, locals := 14 } : Room).slots) := by
  refine MetFree.of_bodySF (plainFor_of_name pn_15) hisR ?_
  intro p e s m args below meth c s₁ Bd hml0 hP hK
  obtain ⟨rfl, hZ, hh⟩ := hP
  have hx := Bd.exec
  have hby := Bd.bytes
  have hml : c.maxLocals = 2 := hml0
  have hown0 := findClass_of_methodNamed Bd.named
  have hown : s.vm.findClass "java/lang/String" = some m.cls := hown0
  have hnm := (name_of_methodNamed Bd.named Bd.method).1
  have X0 : Stand p l e ({ frames := 1, cells := 0, slots := 0, locals := 14 } : Room) s m #[(.int p1), (.int p2)] below meth c s₁ [] 0 0 := Stand.of_body Bd
  have e0 : s₁.heap = h0 := by rw [← hh, Bd.state]; rfl
  have N0 := Fr.nil n0
  obtain ⟨S0, hS0⟩ : ∃ z, z = s₁.setTop (entryFrame m #[(.int p1), (.int p2)] 2) := ⟨_, rfl⟩
  have pre0 : own_Go p e below S0 (s₁.setTop (mkF m 0 #[.val (.int p1), .val (.int p2)] [])) := fun t k => by rw [hS0]; exact castTop (ef_sck m p1 p2) k
  have fin : ∀ t, Steps p.tables e below S0 t → Steps p.tables e below (s₁.setTop (entryFrame m #[(.int p1), (.int p2)] 2)) t := fun t k => by rw [hS0] at k; exact k
  have pre1 : own_Go p e below S0 (s₁.setTop (mkF m 2 #[.val (.int p1), .val (.int p2)] [(.int p2), (.int p1)])) := by
    intro t kt
    refine pre0 t ?_
    refine XS.iloadN X0.here hx rfl (hb hby d15_0) rfl ?_
    show Steps p.tables e below (s₁.setTop (mkF m 1 #[.val (.int p1), .val (.int p2)] [(.int p1)])) _
    refine XS.iloadN X0.here hx rfl (hb hby d15_1) rfl ?_
    show Steps p.tables e below (s₁.setTop (mkF m 2 #[.val (.int p1), .val (.int p2)] [(.int p2), (.int p1)])) _
    exact kt
  obtain ⟨T2, X2, e2, st2⟩ := getS2 X0 hx hZ hown (host := "") (Or.inl (hw _ (own_w 84 rfl))) Via.refl e0 (SF.ext O0.2) (g := (mkF m 2 #[.val (.int p1), .val (.int p2)] [(.int p2), (.int p1)])) rfl (hb hby d15_2)
  have pre3 : own_Go p e below S0 (T2.setTop (mkF m 5 #[.val (.int p1), .val (.int p2)] [wF, (.int p2), (.int p1)])) := by
    intro t kt
    refine pre1 t ?_
    refine st2 _ ?_
    show Steps p.tables e below (T2.setTop (mkF m 5 #[.val (.int p1), .val (.int p2)] [wF, (.int p2), (.int p1)])) _
    exact kt
  obtain hwF | ⟨aF, hwF⟩ := ref_cases hF
  · have pre4 : own_Go p e below S0 (T2.setTop (mkF m 5 #[.val (.int p1), .val (.int p2)] [.null, (.int p2), (.int p1)])) := by
      intro t kt
      refine pre3 t ?_
      rw [hwF]
      exact kt
    obtain ⟨_, _, ⟨T5, L5, k5, n5⟩, -, X5, ⟨Lc5, hQ5, l5, y5, z5⟩, st5⟩ := Jvm.LawKit.callS X2 hx (y := (⟨"jdk/internal/util/Preconditions", "checkIndex", "(IILjava/util/function/BiFunction;)I"⟩ : MethodName)) hown (mvT hZ (hw _ (own_w 86 rfl))) (mvT hZ (hw _ (own_w 87 rfl))) (mvT hZ (hw _ (own_w 85 rfl))) (mvT hZ (hw _ (own_w 88 rfl))) (by decide) (backOf (W := 0) (rmpck_n l Z a0 hw [] p1 p2 h0 n0 Z0 h1 h2) hZ (hw _ (own_w 88 rfl)) (hw _ (own_w 85 rfl)) (by decide) (by decide)) (g := (mkF m 5 #[.val (.int p1), .val (.int p2)] [.null, (.int p2), (.int p1)])) rfl (by rw [hml]; rfl) (argsL := [(.int p1), (.int p2), .null]) (rest := []) (lenOf pd_9 rfl) rfl (by show 2 * 0 + _ ≤ _; exact Nat.le_of_eq rfl) (hb hby d15_5) (fun _ _ => ⟨rfl, e2, (by decide : 0 + 0 ≤ _), (by decide : 0 + 0 ≤ _)⟩)
    dsimp only [Pt.U, Pt.locs, Pt.cells, Pt.slots] at X5 l5 y5 z5 st5 hQ5
    subst l5 y5 z5
    obtain ⟨rfl, Nq5, eq5⟩ := hQ5
    have N5 := Fr.app N0 Nq5
    have pre6 : own_Go p e below S0 (T5.setTop (mkF m 9 #[.val (.int p1), .val (.int p2)] [])) := by
      intro t kt
      refine pre4 t ?_
      refine st5 _ ?_
      show Steps p.tables e below (T5.setTop (mkF m 8 #[.val (.int p1), .val (.int p2)] [(.int p1)])) _
      refine XS.pop X5.here hx rfl (hb hby d15_8) rfl rfl ?_
      show Steps p.tables e below (T5.setTop (mkF m 9 #[.val (.int p1), .val (.int p2)] [])) _
      exact kt
    obtain ⟨fs, hr, hrun, hended, hW, hsame⟩ := X5.leave (v := none) (fun _ => rfl)
    refine ⟨_, _, fin _ (pre6 _ ?_), hrun, hended, _, _, rfl, ?_, ⟨_, rfl⟩, hW, hsame.mono (by decide) (by decide)⟩
    · exact X5.returnOut hx Bd.returns (hb hby d15_9) hr
    · show Qsck Z p1 p2 wF h0 n0 _ T5.heap _
      rw [eq5]
      exact ⟨rfl, N5, rfl⟩
  · have pre7 : own_Go p e below S0 (T2.setTop (mkF m 5 #[.val (.int p1), .val (.int p2)] [(.ref aF), (.int p2), (.int p1)])) := by
      intro t kt
      refine pre3 t ?_
      rw [hwF]
      exact kt
    obtain ⟨_, _, ⟨T8, L8, k8, n8⟩, -, X8, ⟨Lc8, hQ8, l8, y8, z8⟩, st8⟩ := Jvm.LawKit.callS X2 hx (y := (⟨"jdk/internal/util/Preconditions", "checkIndex", "(IILjava/util/function/BiFunction;)I"⟩ : MethodName)) hown (mvT hZ (hw _ (own_w 86 rfl))) (mvT hZ (hw _ (own_w 87 rfl))) (mvT hZ (hw _ (own_w 85 rfl))) (mvT hZ (hw _ (own_w 88 rfl))) (by decide) (backOf (W := 0) (rmpck_r l Z a0 hw [] p1 p2 aF h0 n0 Z0 h1 h2) hZ (hw _ (own_w 88 rfl)) (hw _ (own_w 85 rfl)) (by decide) (by decide)) (g := (mkF m 5 #[.val (.int p1), .val (.int p2)] [(.ref aF), (.int p2), (.int p1)])) rfl (by rw [hml]; rfl) (argsL := [(.int p1), (.int p2), (.ref aF)]) (rest := []) (lenOf pd_9 rfl) rfl (by show 2 * 0 + _ ≤ _; exact Nat.le_of_eq rfl) (hb hby d15_5) (fun _ _ => ⟨rfl, e2, (by decide : 0 + 0 ≤ _), (by decide : 0 + 0 ≤ _)⟩)
    dsimp only [Pt.U, Pt.locs, Pt.cells, Pt.slots] at X8 l8 y8 z8 st8 hQ8
    subst l8 y8 z8
    obtain ⟨rfl, Nq8, eq8⟩ := hQ8
    have N8 := Fr.app N0 Nq8
    have pre9 : own_Go p e below S0 (T8.setTop (mkF m 9 #[.val (.int p1), .val (.int p2)] [])) := by
      intro t kt
      refine pre7 t ?_
      refine st8 _ ?_
      show Steps p.tables e below (T8.setTop (mkF m 8 #[.val (.int p1), .val (.int p2)] [(.int p1)])) _
      refine XS.pop X8.here hx rfl (hb hby d15_8) rfl rfl ?_
      show Steps p.tables e below (T8.setTop (mkF m 9 #[.val (.int p1), .val (.int p2)] [])) _
      exact kt
    obtain ⟨fs, hr, hrun, hended, hW, hsame⟩ := X8.leave (v := none) (fun _ => rfl)
    refine ⟨_, _, fin _ (pre9 _ ?_), hrun, hended, _, _, rfl, ?_, ⟨_, rfl⟩, hW, hsame.mono (by decide) (by decide)⟩
    · exact X8.returnOut hx Bd.returns (hb hby d15_9) hr
    · show Qsck Z p1 p2 wF h0 n0 _ T8.heap _
      rw [eq8]
      exact ⟨rfl, N8, rfl⟩

theorem d14_0 : decode jdk_43_method_2_code 0 = .ok (.iload_n 1, 1) := by decide +kernel
theorem d14_1 : decode jdk_43_method_2_code 1 = .ok (.aload_n 0, 1) := by decide +kernel
theorem d14_2 : decode jdk_43_method_2_code 2 = .ok (.arraylength, 1) := by decide +kernel
theorem d14_3 : decode jdk_43_method_2_code 3 = .ok (.invokestatic 9, 3) := by decide +kernel
theorem d14_6 : decode jdk_43_method_2_code 6 = .ok (.aload_n 0, 1) := by decide +kernel
theorem d14_7 : decode jdk_43_method_2_code 7 = .ok (.iload_n 1, 1) := by decide +kernel
theorem d14_8 : decode jdk_43_method_2_code 8 = .ok (.baload, 1) := by decide +kernel
theorem d14_9 : decode jdk_43_method_2_code 9 = .ok (.sipush 255, 3) := by decide +kernel
theorem d14_12 : decode jdk_43_method_2_code 12 = .ok (.iand, 1) := by decide +kernel
theorem d14_13 : decode jdk_43_method_2_code 13 = .ok (.i2c, 1) := by decide +kernel
theorem d14_14 : decode jdk_43_method_2_code 14 = .ok (.ireturn, 1) := by decide +kernel
theorem pn_14 : plainName "java/lang/StringLatin1" = true := by first | (simp [plainName, overriddenIn]; done) | decide +kernel
theorem pd_10 : parseMethodDescriptor "(II)V" = some ⟨[.int, .int], none⟩ := by decide +kernel
theorem ef_l1at (m : MethodId) (x0 : Addr) (x1 : Int32) : entryFrame m #[(.ref x0), (.int x1)] 2 = mkF m 0 #[.val (.ref x0), .val (.int x1)] [] := by first | (simp [entryFrame, mkF, argsToLocals, Value.category]; done) | rfl
def Ql1at (Z : State) (a1 : Addr) (p2 : Int32) (wF : Value) (k1 : ClassId) (z1 : Int32) (vs : List Value) (d1 : Value) (u : Int32) (h0 : Heap) (n0 : Nat) (v : Option Value) (h : Heap) (L : List Loc) : Prop := v = (some (.int (own_lc u))) ∧ Fr n0 L ∧ h = h0
set_option maxRecDepth 65536 in
set_option maxHeartbeats 40000000 in
theorem rml1at (l : Launch) (Z : State) (a0 : Array Value) (hw : ∀ d ∈ tables_1, d.before a0 Z = true) (ws : List Jvm.Cond) (a1 : Addr) (p2 : Int32) (wF : Value) (k1 : ClassId) (z1 : Int32) (vs : List Value) (d1 : Value) (u : Int32) (h0 : Heap) (n0 : Nat) (Z0 : n0 ≤ h0.size) (O0 : Old Z n0 h0) (SF : Sta Z Z.heap "jdk/internal/util/Preconditions" "SIOOBE_FORMATTER" "Ljava/util/function/BiFunction;" wF) (hF : (wF.isRef = true)) (V1 : Arv Z h0 a1 k1 .byte z1 vs d1) (h1 : (¬ p2 < (0 : Int32))) (h2 : (p2 < z1)) (hg : (vs.getD p2.toNatClampNeg d1 = .int u)) :
    MetFree l (⟨"java/lang/StringLatin1", "charAt", "([BI)C"⟩ : MethodName) (head1 (Jvm.Cond.code (⟨"java/lang/StringLatin1", "charAt", "([BI)C"⟩ : MethodName) jdk_43_method_2_code 2 (some .char) :: ws) ({ frames := 2, cells := 0, slots := 0, locals := 27 } : Room)) (fun a U => a = #[(.ref a1), (.int p2)] ∧ Z.Warmed39 U.vm ∧ U.heap = h0) (fun _ _ _ _ _ => True) (fun _ U o U' => ∃ v L, o = .returned v ∧ Ql1at Z a1 p2 wF k1 z1 vs d1 u h0 n0 v U'.heap L ∧ FrameEnd U o U' L ({ frames := 2, cells := 0, slots := 0, locals := 27 } : Room).cells ({ frames := 2, cells := 0, slots := 0, locals := 27 } : Room).slots) := by
  refine MetFree.of_bodySF (plainFor_of_name pn_14) hisR ?_
  intro p e s m args below meth c s₁ Bd hml0 hP hK
  obtain ⟨rfl, hZ, hh⟩ := hP
  have hx := Bd.exec
  have hby := Bd.bytes
  have hml : c.maxLocals = 2 := hml0
  have hown0 := findClass_of_methodNamed Bd.named
  have hown : s.vm.findClass "java/lang/StringLatin1" = some m.cls := hown0
  have hnm := (name_of_methodNamed Bd.named Bd.method).1
  have X0 : Stand p l e ({ frames := 2, cells := 0, slots := 0, locals := 27 } : Room) s m #[(.ref a1), (.int p2)] below meth c s₁ [] 0 0 := Stand.of_body Bd
  have e0 : s₁.heap = h0 := by rw [← hh, Bd.state]; rfl
  have N0 := Fr.nil n0
  obtain ⟨S0, hS0⟩ : ∃ z, z = s₁.setTop (entryFrame m #[(.ref a1), (.int p2)] 2) := ⟨_, rfl⟩
  have pre0 : own_Go p e below S0 (s₁.setTop (mkF m 0 #[.val (.ref a1), .val (.int p2)] [])) := fun t k => by rw [hS0]; exact castTop (ef_l1at m a1 p2) k
  have fin : ∀ t, Steps p.tables e below S0 t → Steps p.tables e below (s₁.setTop (entryFrame m #[(.ref a1), (.int p2)] 2)) t := fun t k => by rw [hS0] at k; exact k
  have pre1 : own_Go p e below S0 (s₁.setTop (mkF m 2 #[.val (.ref a1), .val (.int p2)] [(.ref a1), (.int p2)])) := by
    intro t kt
    refine pre0 t ?_
    refine XS.iloadN X0.here hx rfl (hb hby d14_0) rfl ?_
    show Steps p.tables e below (s₁.setTop (mkF m 1 #[.val (.ref a1), .val (.int p2)] [(.int p2)])) _
    refine XS.aloadN X0.here hx rfl (hb hby d14_1) rfl rfl ?_
    show Steps p.tables e below (s₁.setTop (mkF m 2 #[.val (.ref a1), .val (.int p2)] [(.ref a1), (.int p2)])) _
    exact kt
  obtain ⟨cl2, Ar2, -, Sz2, Ng2, -, -⟩ := id V1
  have pre3 : own_Go p e below S0 (s₁.setTop (mkF m 3 #[.val (.ref a1), .val (.int p2)] [(.int z1), (.int p2)])) := by
    intro t kt
    refine pre1 t ?_
    refine X0.arraylength hx (by rw [e0]; exact Ar2.1) (State.isArrayOf_alike hZ.alike Ar2.2.1) (g := (mkF m 2 #[.val (.ref a1), .val (.int p2)] [(.ref a1), (.int p2)])) rfl rfl (hb hby d14_2) _ ?_
    rw [len_of Sz2 Ng2]
    show Steps p.tables e below (s₁.setTop (mkF m 3 #[.val (.ref a1), .val (.int p2)] [(.int z1), (.int p2)])) _
    exact kt
  obtain ⟨_, _, ⟨T4, L4, k4, n4⟩, -, X4, ⟨Lc4, hQ4, l4, y4, z4⟩, st4⟩ := Jvm.LawKit.callS X0 hx (y := (⟨"java/lang/String", "checkIndex", "(II)V"⟩ : MethodName)) hown (mvT hZ (hw _ (own_w 81 rfl))) (mvT hZ (hw _ (own_w 82 rfl))) (mvT hZ (hw _ (own_w 31 rfl))) (mvT hZ (hw _ (own_w 83 rfl))) (by decide) (backOf (W := 0) (rmsck l Z a0 hw [] p2 z1 wF h0 n0 Z0 O0 SF hF h1 h2) hZ (hw _ (own_w 83 rfl)) (hw _ (own_w 31 rfl)) (by decide) (by decide)) (g := (mkF m 3 #[.val (.ref a1), .val (.int p2)] [(.int z1), (.int p2)])) rfl (by rw [hml]; rfl) (argsL := [(.int p2), (.int z1)]) (rest := []) (lenOf pd_10 rfl) rfl (by show 2 * 0 + _ ≤ _; exact Nat.le_of_eq rfl) (hb hby d14_3) (fun _ _ => ⟨rfl, e0, (by decide : 0 + 0 ≤ _), (by decide : 0 + 0 ≤ _)⟩)
  dsimp only [Pt.U, Pt.locs, Pt.cells, Pt.slots] at X4 l4 y4 z4 st4 hQ4
  subst l4 y4 z4
  obtain ⟨rfl, Nq4, eq4⟩ := hQ4
  have N4 := Fr.app N0 Nq4
  have pre5 : own_Go p e below S0 (T4.setTop (mkF m 8 #[.val (.ref a1), .val (.int p2)] [(.int p2), (.ref a1)])) := by
    intro t kt
    refine pre3 t ?_
    refine st4 _ ?_
    show Steps p.tables e below (T4.setTop (mkF m 6 #[.val (.ref a1), .val (.int p2)] [])) _
    refine XS.aloadN X4.here hx rfl (hb hby d14_6) rfl rfl ?_
    show Steps p.tables e below (T4.setTop (mkF m 7 #[.val (.ref a1), .val (.int p2)] [(.ref a1)])) _
    refine XS.iloadN X4.here hx rfl (hb hby d14_7) rfl ?_
    show Steps p.tables e below (T4.setTop (mkF m 8 #[.val (.ref a1), .val (.int p2)] [(.int p2), (.ref a1)])) _
    exact kt
  obtain ⟨cl6, Ar6, -, Sz6, -, Hs6, -⟩ := id V1
  have hin6 : ¬ (p2 < 0 ∨ cl6.slots.size ≤ (p2).toNatClampNeg) := inb_of Sz6 ⟨h1, h2⟩
  have pre7 : own_Go p e below S0 (T4.setTop (mkF m 14 #[.val (.ref a1), .val (.int p2)] [(.int ((u &&& (255 : Int32)).toUInt32.toUInt16.toUInt32.toInt32))])) := by
    intro t kt
    refine pre5 t ?_
    refine X4.baloadBytes hx (j := p2) (v := (.int u)) (by rw [eq4]; exact Ar6.1) (State.isArrayOf_alike hZ.alike Ar6.2.1) Ar6.2.2 hin6 (Hs6.at hin6 hg) (g := (mkF m 8 #[.val (.ref a1), .val (.int p2)] [(.int p2), (.ref a1)])) rfl rfl (hb hby d14_8) _ ?_
    show Steps p.tables e below (T4.setTop (mkF m 9 #[.val (.ref a1), .val (.int p2)] [(.int u)])) _
    refine XS.sipush X4.here hx rfl (hb hby d14_9) ?_
    show Steps p.tables e below (T4.setTop (mkF m 12 #[.val (.ref a1), .val (.int p2)] [(.int (255 : Int32)), (.int u)])) _
    refine XS.iand X4.here hx rfl (hb hby d14_12) rfl ?_
    show Steps p.tables e below (T4.setTop (mkF m 13 #[.val (.ref a1), .val (.int p2)] [(.int (u &&& (255 : Int32)))])) _
    refine XS.i2c X4.here hx rfl (hb hby d14_13) rfl ?_
    show Steps p.tables e below (T4.setTop (mkF m 14 #[.val (.ref a1), .val (.int p2)] [(.int ((u &&& (255 : Int32)).toUInt32.toUInt16.toUInt32.toInt32))])) _
    exact kt
  obtain ⟨fs, hr, hrun, hended, hW, hsame⟩ := X4.leave (v := some (.int (nar .char ((u &&& (255 : Int32)).toUInt32.toUInt16.toUInt32.toInt32)))) (fun h => by rw [Bd.returns] at h; cases h)
  refine ⟨_, _, fin _ (pre7 _ ?_), hrun, hended, _, _, rfl, ?_, ⟨_, rfl⟩, hW, hsame.mono (by decide) (by decide)⟩
  · exact retN X4 hx (t := .char) Bd.returns (by simp) (hb hby d14_14) hr
  · show Ql1at Z a1 p2 wF k1 z1 vs d1 u h0 n0 _ T4.heap _
    rw [eq4]
    exact ⟨rfl, N4, rfl⟩

theorem d24_0 : decode jdk_52_method_6_code 0 = .ok (.aload_n 0, 1) := by decide +kernel
theorem d24_1 : decode jdk_52_method_6_code 1 = .ok (.arraylength, 1) := by decide +kernel
theorem d24_2 : decode jdk_52_method_6_code 2 = .ok (.iconst 1, 1) := by decide +kernel
theorem d24_3 : decode jdk_52_method_6_code 3 = .ok (.ishr, 1) := by decide +kernel
theorem d24_4 : decode jdk_52_method_6_code 4 = .ok (.ireturn, 1) := by decide +kernel
theorem pn_24 : plainName "java/lang/StringUTF16" = true := by first | (simp [plainName, overriddenIn]; done) | decide +kernel
theorem ef_u16len_8 (m : MethodId) (x0 : Addr) : entryFrame m #[(.ref x0)] 1 = mkF m 0 #[.val (.ref x0)] [] := by first | (simp [entryFrame, mkF, argsToLocals, Value.category]; done) | rfl
def Qu16len_8 (Z : State) (a1 : Addr) (k1 : ClassId) (vs : List Value) (d1 : Value) (h0 : Heap) (n0 : Nat) (v : Option Value) (h : Heap) (L : List Loc) : Prop := v = (some (.int (4 : Int32))) ∧ Fr n0 L ∧ h = h0
set_option maxRecDepth 65536 in
set_option maxHeartbeats 40000000 in
theorem rmu16len_8 (l : Launch) (Z : State) (a0 : Array Value) (hw : ∀ d ∈ tables_1, d.before a0 Z = true) (ws : List Jvm.Cond) (a1 : Addr) (k1 : ClassId) (vs : List Value) (d1 : Value) (h0 : Heap) (n0 : Nat) (Z0 : n0 ≤ h0.size) (V1 : Arv Z h0 a1 k1 .byte (8 : Int32) vs d1) :
    MetFree l (⟨"java/lang/StringUTF16", "length", "([B)I"⟩ : MethodName) (head1 (Jvm.Cond.code (⟨"java/lang/StringUTF16", "length", "([B)I"⟩ : MethodName) jdk_52_method_6_code 1 (some .int) :: ws) ({ frames := 0, cells := 0, slots := 0, locals := 0 } : Room)) (fun a U => a = #[(.ref a1)] ∧ Z.Warmed39 U.vm ∧ U.heap = h0) (fun _ _ _ _ _ => True) (fun _ U o U' => ∃ v L, o = .returned v ∧ Qu16len_8 Z a1 k1 vs d1 h0 n0 v U'.heap L ∧ FrameEnd U o U' L ({ frames := 0, cells := 0, slots := 0, locals := 0 } : Room).cells ({ frames := 0, cells := 0, slots := 0, locals := 0 } : Room).slots) := by
  refine MetFree.of_bodySF (plainFor_of_name pn_24) hisR ?_
  intro p e s m args below meth c s₁ Bd hml0 hP hK
  obtain ⟨rfl, hZ, hh⟩ := hP
  have hx := Bd.exec
  have hby := Bd.bytes
  have hml : c.maxLocals = 1 := hml0
  have hown0 := findClass_of_methodNamed Bd.named
  have hown : s.vm.findClass "java/lang/StringUTF16" = some m.cls := hown0
  have hnm := (name_of_methodNamed Bd.named Bd.method).1
  have X0 : Stand p l e ({ frames := 0, cells := 0, slots := 0, locals := 0 } : Room) s m #[(.ref a1)] below meth c s₁ [] 0 0 := Stand.of_body Bd
  have e0 : s₁.heap = h0 := by rw [← hh, Bd.state]; rfl
  have N0 := Fr.nil n0
  obtain ⟨S0, hS0⟩ : ∃ z, z = s₁.setTop (entryFrame m #[(.ref a1)] 1) := ⟨_, rfl⟩
  have pre0 : own_Go p e below S0 (s₁.setTop (mkF m 0 #[.val (.ref a1)] [])) := fun t k => by rw [hS0]; exact castTop (ef_u16len_8 m a1) k
  have fin : ∀ t, Steps p.tables e below S0 t → Steps p.tables e below (s₁.setTop (entryFrame m #[(.ref a1)] 1)) t := fun t k => by rw [hS0] at k; exact k
  have pre1 : own_Go p e below S0 (s₁.setTop (mkF m 1 #[.val (.ref a1)] [(.ref a1)])) := by
    intro t kt
    refine pre0 t ?_
    refine XS.aloadN X0.here hx rfl (hb hby d24_0) rfl rfl ?_
    show Steps p.tables e below (s₁.setTop (mkF m 1 #[.val (.ref a1)] [(.ref a1)])) _
    exact kt
  obtain ⟨cl2, Ar2, -, Sz2, Ng2, -, -⟩ := id V1
  have pre3 : own_Go p e below S0 (s₁.setTop (mkF m 4 #[.val (.ref a1)] [(.int (4 : Int32))])) := by
    intro t kt
    refine pre1 t ?_
    refine X0.arraylength hx (by rw [e0]; exact Ar2.1) (State.isArrayOf_alike hZ.alike Ar2.2.1) (g := (mkF m 1 #[.val (.ref a1)] [(.ref a1)])) rfl rfl (hb hby d24_1) _ ?_
    rw [len_of Sz2 Ng2]
    show Steps p.tables e below (s₁.setTop (mkF m 2 #[.val (.ref a1)] [(.int (8 : Int32))])) _
    refine XS.iconst X0.here hx rfl (hb hby d24_2) ?_
    show Steps p.tables e below (s₁.setTop (mkF m 3 #[.val (.ref a1)] [(.int (1 : Int32)), (.int (8 : Int32))])) _
    refine XS.ishr X0.here hx rfl (hb hby d24_3) rfl ?_
    show Steps p.tables e below (s₁.setTop (mkF m 4 #[.val (.ref a1)] [(.int (4 : Int32))])) _
    exact kt
  obtain ⟨fs, hr, hrun, hended, hW, hsame⟩ := X0.leave (v := some (.int (4 : Int32))) (fun h => by rw [Bd.returns] at h; cases h)
  refine ⟨_, _, fin _ (pre3 _ ?_), hrun, hended, _, _, rfl, ?_, ⟨_, rfl⟩, hW, hsame.mono (by decide) (by decide)⟩
  · exact retI X0 hx Bd.returns (hb hby d24_4) hr
  · show Qu16len_8 Z a1 k1 vs d1 h0 n0 _ s₁.heap _
    rw [e0]
    exact ⟨rfl, N0, rfl⟩

theorem d23_0 : decode jdk_52_method_91_code 0 = .ok (.iload_n 0, 1) := by decide +kernel
theorem d23_1 : decode jdk_52_method_91_code 1 = .ok (.aload_n 1, 1) := by decide +kernel
theorem d23_2 : decode jdk_52_method_91_code 2 = .ok (.invokestatic 48, 3) := by decide +kernel
theorem d23_5 : decode jdk_52_method_91_code 5 = .ok (.invokestatic 414, 3) := by decide +kernel
theorem d23_8 : decode jdk_52_method_91_code 8 = .ok (.return_, 1) := by decide +kernel
theorem pn_23 : plainName "java/lang/StringUTF16" = true := by first | (simp [plainName, overriddenIn]; done) | decide +kernel
theorem pd_11 : parseMethodDescriptor "([B)I" = some ⟨[(.array .byte)], some .int⟩ := by decide +kernel
theorem ef_u16ck_0_8 (m : MethodId) (x1 : Addr) : entryFrame m #[(.int (0 : Int32)), (.ref x1)] 2 = mkF m 0 #[.val (.int (0 : Int32)), .val (.ref x1)] [] := by first | (simp [entryFrame, mkF, argsToLocals, Value.category]; done) | rfl
def Qu16ck_0_8 (Z : State) (a2 : Addr) (wF : Value) (k1 : ClassId) (vs : List Value) (d1 : Value) (h0 : Heap) (n0 : Nat) (v : Option Value) (h : Heap) (L : List Loc) : Prop := v = none ∧ Fr n0 L ∧ h = h0
set_option maxRecDepth 65536 in
set_option maxHeartbeats 40000000 in
theorem rmu16ck_0_8 (l : Launch) (Z : State) (a0 : Array Value) (hw : ∀ d ∈ tables_1, d.before a0 Z = true) (ws : List Jvm.Cond) (a2 : Addr) (wF : Value) (k1 : ClassId) (vs : List Value) (d1 : Value) (h0 : Heap) (n0 : Nat) (Z0 : n0 ≤ h0.size) (O0 : Old Z n0 h0) (SF : Sta Z Z.heap "jdk/internal/util/Preconditions" "SIOOBE_FORMATTER" "Ljava/util/function/BiFunction;" wF) (hF : (wF.isRef = true)) (V1 : Arv Z h0 a2 k1 .byte (8 : Int32) vs d1) :
    MetFree l (⟨"java/lang/StringUTF16", "checkIndex", "(I[B)V"⟩ : MethodName) (head1 (Jvm.Cond.code (⟨"java/lang/StringUTF16", "checkIndex", "(I[B)V"⟩ : MethodName) jdk_52_method_91_code 2 none :: ws) ({ frames := 2, cells := 0, slots := 0, locals := 27 } : Room)) (fun a U => a = #[(.int (0 : Int32)), (.ref a2)] ∧ Z.Warmed39 U.vm ∧ U.heap = h0) (fun _ _ _ _ _ => True) (fun _ U o U' => ∃ v L, o = .returned v ∧ Qu16ck_0_8 Z a2 wF k1 vs d1 h0 n0 v U'.heap L ∧ FrameEnd U o U' L ({ frames := 2, cells := 0, slots := 0, locals := 27 } : Room).cells ({ frames := 2, cells := 0, slots := 0, locals := 27 } : Room).slots) := by
  refine MetFree.of_bodySF (plainFor_of_name pn_23) hisR ?_
  intro p e s m args below meth c s₁ Bd hml0 hP hK
  obtain ⟨rfl, hZ, hh⟩ := hP
  have hx := Bd.exec
  have hby := Bd.bytes
  have hml : c.maxLocals = 2 := hml0
  have hown0 := findClass_of_methodNamed Bd.named
  have hown : s.vm.findClass "java/lang/StringUTF16" = some m.cls := hown0
  have hnm := (name_of_methodNamed Bd.named Bd.method).1
  have X0 : Stand p l e ({ frames := 2, cells := 0, slots := 0, locals := 27 } : Room) s m #[(.int (0 : Int32)), (.ref a2)] below meth c s₁ [] 0 0 := Stand.of_body Bd
  have e0 : s₁.heap = h0 := by rw [← hh, Bd.state]; rfl
  have N0 := Fr.nil n0
  obtain ⟨S0, hS0⟩ : ∃ z, z = s₁.setTop (entryFrame m #[(.int (0 : Int32)), (.ref a2)] 2) := ⟨_, rfl⟩
  have pre0 : own_Go p e below S0 (s₁.setTop (mkF m 0 #[.val (.int (0 : Int32)), .val (.ref a2)] [])) := fun t k => by rw [hS0]; exact castTop (ef_u16ck_0_8 m a2) k
  have fin : ∀ t, Steps p.tables e below S0 t → Steps p.tables e below (s₁.setTop (entryFrame m #[(.int (0 : Int32)), (.ref a2)] 2)) t := fun t k => by rw [hS0] at k; exact k
  have pre1 : own_Go p e below S0 (s₁.setTop (mkF m 2 #[.val (.int (0 : Int32)), .val (.ref a2)] [(.ref a2), (.int (0 : Int32))])) := by
    intro t kt
    refine pre0 t ?_
    refine XS.iloadN X0.here hx rfl (hb hby d23_0) rfl ?_
    show Steps p.tables e below (s₁.setTop (mkF m 1 #[.val (.int (0 : Int32)), .val (.ref a2)] [(.int (0 : Int32))])) _
    refine XS.aloadN X0.here hx rfl (hb hby d23_1) rfl rfl ?_
    show Steps p.tables e below (s₁.setTop (mkF m 2 #[.val (.int (0 : Int32)), .val (.ref a2)] [(.ref a2), (.int (0 : Int32))])) _
    exact kt
  obtain ⟨_, _, ⟨T2, L2, k2, n2⟩, -, X2, ⟨Lc2, hQ2, l2, y2, z2⟩, st2⟩ := Jvm.LawKit.callS X0 hx (y := (⟨"java/lang/StringUTF16", "length", "([B)I"⟩ : MethodName)) hown (mvT hZ (hw _ (own_w 114 rfl))) (mvT hZ (hw _ (own_w 115 rfl))) (mvT hZ (hw _ (own_w 44 rfl))) (mvT hZ (hw _ (own_w 116 rfl))) (by decide) (backOf (W := 1) (rmu16len_8 l Z a0 hw [] a2 k1 vs d1 h0 n0 Z0 V1) hZ (hw _ (own_w 116 rfl)) (hw _ (own_w 44 rfl)) (by decide) (by decide)) (g := (mkF m 2 #[.val (.int (0 : Int32)), .val (.ref a2)] [(.ref a2), (.int (0 : Int32))])) rfl (by rw [hml]; rfl) (argsL := [(.ref a2)]) (rest := [(.int (0 : Int32))]) (lenOf pd_11 rfl) rfl (by show 2 * 0 + _ ≤ _; exact Nat.le_of_eq rfl) (hb hby d23_2) (fun _ _ => ⟨rfl, e0, (by decide : 0 + 0 ≤ _), (by decide : 0 + 0 ≤ _)⟩)
  dsimp only [Pt.U, Pt.locs, Pt.cells, Pt.slots] at X2 l2 y2 z2 st2 hQ2
  subst l2 y2 z2
  obtain ⟨rfl, Nq2, eq2⟩ := hQ2
  have N2 := Fr.app N0 Nq2
  have pre3 : own_Go p e below S0 (T2.setTop (mkF m 5 #[.val (.int (0 : Int32)), .val (.ref a2)] [(.int (4 : Int32)), (.int (0 : Int32))])) := by
    intro t kt
    refine pre1 t ?_
    refine st2 _ ?_
    show Steps p.tables e below (T2.setTop (mkF m 5 #[.val (.int (0 : Int32)), .val (.ref a2)] [(.int (4 : Int32)), (.int (0 : Int32))])) _
    exact kt
  obtain ⟨_, _, ⟨T4, L4, k4, n4⟩, -, X4, ⟨Lc4, hQ4, l4, y4, z4⟩, st4⟩ := Jvm.LawKit.callS X2 hx (y := (⟨"java/lang/String", "checkIndex", "(II)V"⟩ : MethodName)) hown (mvT hZ (hw _ (own_w 117 rfl))) (mvT hZ (hw _ (own_w 82 rfl))) (mvT hZ (hw _ (own_w 31 rfl))) (mvT hZ (hw _ (own_w 83 rfl))) (by decide) (backOf (W := 0) (rmsck l Z a0 hw [] (0 : Int32) (4 : Int32) wF h0 n0 Z0 O0 SF hF (by decide) (by decide)) hZ (hw _ (own_w 83 rfl)) (hw _ (own_w 31 rfl)) (by decide) (by decide)) (g := (mkF m 5 #[.val (.int (0 : Int32)), .val (.ref a2)] [(.int (4 : Int32)), (.int (0 : Int32))])) rfl (by rw [hml]; rfl) (argsL := [(.int (0 : Int32)), (.int (4 : Int32))]) (rest := []) (lenOf pd_10 rfl) rfl (by show 2 * 0 + _ ≤ _; exact Nat.le_of_eq rfl) (hb hby d23_5) (fun _ _ => ⟨rfl, eq2, (by decide : 0 + 0 ≤ _), (by decide : 0 + 0 ≤ _)⟩)
  dsimp only [Pt.U, Pt.locs, Pt.cells, Pt.slots] at X4 l4 y4 z4 st4 hQ4
  subst l4 y4 z4
  obtain ⟨rfl, Nq4, eq4⟩ := hQ4
  have N4 := Fr.app N2 Nq4
  have pre5 : own_Go p e below S0 (T4.setTop (mkF m 8 #[.val (.int (0 : Int32)), .val (.ref a2)] [])) := by
    intro t kt
    refine pre3 t ?_
    refine st4 _ ?_
    show Steps p.tables e below (T4.setTop (mkF m 8 #[.val (.int (0 : Int32)), .val (.ref a2)] [])) _
    exact kt
  obtain ⟨fs, hr, hrun, hended, hW, hsame⟩ := X4.leave (v := none) (fun _ => rfl)
  refine ⟨_, _, fin _ (pre5 _ ?_), hrun, hended, _, _, rfl, ?_, ⟨_, rfl⟩, hW, hsame.mono (by decide) (by decide)⟩
  · exact X4.returnOut hx Bd.returns (hb hby d23_8) hr
  · show Qu16ck_0_8 Z a2 wF k1 vs d1 h0 n0 _ T4.heap _
    rw [eq4]
    exact ⟨rfl, N4, rfl⟩

theorem d22_0 : decode jdk_52_method_83_code 0 = .ok (.iload_n 1, 1) := by decide +kernel
theorem d22_1 : decode jdk_52_method_83_code 1 = .ok (.aload_n 0, 1) := by decide +kernel
theorem d22_2 : decode jdk_52_method_83_code 2 = .ok (.invokestatic 67, 3) := by decide +kernel
theorem d22_5 : decode jdk_52_method_83_code 5 = .ok (.aload_n 0, 1) := by decide +kernel
theorem d22_6 : decode jdk_52_method_83_code 6 = .ok (.iload_n 1, 1) := by decide +kernel
theorem d22_7 : decode jdk_52_method_83_code 7 = .ok (.invokestatic 71, 3) := by decide +kernel
theorem d22_10 : decode jdk_52_method_83_code 10 = .ok (.ireturn, 1) := by decide +kernel
theorem pn_22 : plainName "java/lang/StringUTF16" = true := by first | (simp [plainName, overriddenIn]; done) | decide +kernel
theorem pd_12 : parseMethodDescriptor "(I[B)V" = some ⟨[.int, (.array .byte)], none⟩ := by decide +kernel
theorem ef_u16at_0_8 (m : MethodId) (x0 : Addr) : entryFrame m #[(.ref x0), (.int (0 : Int32))] 2 = mkF m 0 #[.val (.ref x0), .val (.int (0 : Int32))] [] := by first | (simp [entryFrame, mkF, argsToLocals, Value.category]; done) | rfl
def Qu16at_0_8 (Z : State) (a1 : Addr) (wF : Value) (k1 : ClassId) (b0 : Int32) (b1 : Int32) (u2 : Value) (u3 : Value) (u4 : Value) (u5 : Value) (u6 : Value) (u7 : Value) (h0 : Heap) (n0 : Nat) (v : Option Value) (h : Heap) (L : List Loc) : Prop := v = (some (.int (own_gc b0 b1))) ∧ Fr n0 L ∧ h = h0
set_option maxRecDepth 65536 in
set_option maxHeartbeats 40000000 in
theorem rmu16at_0_8 (l : Launch) (Z : State) (a0 : Array Value) (hw : ∀ d ∈ tables_1, d.before a0 Z = true) (ws : List Jvm.Cond) (a1 : Addr) (wF : Value) (k1 : ClassId) (b0 : Int32) (b1 : Int32) (u2 : Value) (u3 : Value) (u4 : Value) (u5 : Value) (u6 : Value) (u7 : Value) (h0 : Heap) (n0 : Nat) (Z0 : n0 ≤ h0.size) (O0 : Old Z n0 h0) (SA : Sta Z Z.heap "java/lang/StringUTF16" "$assertionsDisabled" "Z" (.int (1 : Int32))) (SH : Sta Z Z.heap "java/lang/StringUTF16" "HI_BYTE_SHIFT" "I" (.int (0 : Int32))) (SL : Sta Z Z.heap "java/lang/StringUTF16" "LO_BYTE_SHIFT" "I" (.int (8 : Int32))) (SF : Sta Z Z.heap "jdk/internal/util/Preconditions" "SIOOBE_FORMATTER" "Ljava/util/function/BiFunction;" wF) (hF : (wF.isRef = true)) (V1 : Arv Z h0 a1 k1 .byte (8 : Int32) [(.int b0), (.int b1), u2, u3, u4, u5, u6, u7] (.int (0 : Int32))) :
    MetFree l (⟨"java/lang/StringUTF16", "charAt", "([BI)C"⟩ : MethodName) (head1 (Jvm.Cond.code (⟨"java/lang/StringUTF16", "charAt", "([BI)C"⟩ : MethodName) jdk_52_method_83_code 2 (some .char) :: ws) ({ frames := 3, cells := 0, slots := 0, locals := 40 } : Room)) (fun a U => a = #[(.ref a1), (.int (0 : Int32))] ∧ Z.Warmed39 U.vm ∧ U.heap = h0) (fun _ _ _ _ _ => True) (fun _ U o U' => ∃ v L, o = .returned v ∧ Qu16at_0_8 Z a1 wF k1 b0 b1 u2 u3 u4 u5 u6 u7 h0 n0 v U'.heap L ∧ FrameEnd U o U' L ({ frames := 3, cells := 0, slots := 0, locals := 40 } : Room).cells ({ frames := 3, cells := 0, slots := 0, locals := 40 } : Room).slots) := by
  refine MetFree.of_bodySF (plainFor_of_name pn_22) hisR ?_
  intro p e s m args below meth c s₁ Bd hml0 hP hK
  obtain ⟨rfl, hZ, hh⟩ := hP
  have hx := Bd.exec
  have hby := Bd.bytes
  have hml : c.maxLocals = 2 := hml0
  have hown0 := findClass_of_methodNamed Bd.named
  have hown : s.vm.findClass "java/lang/StringUTF16" = some m.cls := hown0
  have hnm := (name_of_methodNamed Bd.named Bd.method).1
  have X0 : Stand p l e ({ frames := 3, cells := 0, slots := 0, locals := 40 } : Room) s m #[(.ref a1), (.int (0 : Int32))] below meth c s₁ [] 0 0 := Stand.of_body Bd
  have e0 : s₁.heap = h0 := by rw [← hh, Bd.state]; rfl
  have N0 := Fr.nil n0
  obtain ⟨S0, hS0⟩ : ∃ z, z = s₁.setTop (entryFrame m #[(.ref a1), (.int (0 : Int32))] 2) := ⟨_, rfl⟩
  have pre0 : own_Go p e below S0 (s₁.setTop (mkF m 0 #[.val (.ref a1), .val (.int (0 : Int32))] [])) := fun t k => by rw [hS0]; exact castTop (ef_u16at_0_8 m a1) k
  have fin : ∀ t, Steps p.tables e below S0 t → Steps p.tables e below (s₁.setTop (entryFrame m #[(.ref a1), (.int (0 : Int32))] 2)) t := fun t k => by rw [hS0] at k; exact k
  have pre1 : own_Go p e below S0 (s₁.setTop (mkF m 2 #[.val (.ref a1), .val (.int (0 : Int32))] [(.ref a1), (.int (0 : Int32))])) := by
    intro t kt
    refine pre0 t ?_
    refine XS.iloadN X0.here hx rfl (hb hby d22_0) rfl ?_
    show Steps p.tables e below (s₁.setTop (mkF m 1 #[.val (.ref a1), .val (.int (0 : Int32))] [(.int (0 : Int32))])) _
    refine XS.aloadN X0.here hx rfl (hb hby d22_1) rfl rfl ?_
    show Steps p.tables e below (s₁.setTop (mkF m 2 #[.val (.ref a1), .val (.int (0 : Int32))] [(.ref a1), (.int (0 : Int32))])) _
    exact kt
  obtain ⟨_, _, ⟨T2, L2, k2, n2⟩, -, X2, ⟨Lc2, hQ2, l2, y2, z2⟩, st2⟩ := Jvm.LawKit.callS X0 hx (y := (⟨"java/lang/StringUTF16", "checkIndex", "(I[B)V"⟩ : MethodName)) hown (mvT hZ (hw _ (own_w 111 rfl))) (mvT hZ (hw _ (own_w 112 rfl))) (mvT hZ (hw _ (own_w 44 rfl))) (mvT hZ (hw _ (own_w 113 rfl))) (by decide) (backOf (W := 0) (rmu16ck_0_8 l Z a0 hw [] a1 wF k1 [(.int b0), (.int b1), u2, u3, u4, u5, u6, u7] (.int (0 : Int32)) h0 n0 Z0 O0 SF hF V1) hZ (hw _ (own_w 113 rfl)) (hw _ (own_w 44 rfl)) (by decide) (by decide)) (g := (mkF m 2 #[.val (.ref a1), .val (.int (0 : Int32))] [(.ref a1), (.int (0 : Int32))])) rfl (by rw [hml]; rfl) (argsL := [(.int (0 : Int32)), (.ref a1)]) (rest := []) (lenOf pd_12 rfl) rfl (by show 2 * 0 + _ ≤ _; exact Nat.le_of_eq rfl) (hb hby d22_2) (fun _ _ => ⟨rfl, e0, (by decide : 0 + 0 ≤ _), (by decide : 0 + 0 ≤ _)⟩)
  dsimp only [Pt.U, Pt.locs, Pt.cells, Pt.slots] at X2 l2 y2 z2 st2 hQ2
  subst l2 y2 z2
  obtain ⟨rfl, Nq2, eq2⟩ := hQ2
  have N2 := Fr.app N0 Nq2
  have pre3 : own_Go p e below S0 (T2.setTop (mkF m 7 #[.val (.ref a1), .val (.int (0 : Int32))] [(.int (0 : Int32)), (.ref a1)])) := by
    intro t kt
    refine pre1 t ?_
    refine st2 _ ?_
    show Steps p.tables e below (T2.setTop (mkF m 5 #[.val (.ref a1), .val (.int (0 : Int32))] [])) _
    refine XS.aloadN X2.here hx rfl (hb hby d22_5) rfl rfl ?_
    show Steps p.tables e below (T2.setTop (mkF m 6 #[.val (.ref a1), .val (.int (0 : Int32))] [(.ref a1)])) _
    refine XS.iloadN X2.here hx rfl (hb hby d22_6) rfl ?_
    show Steps p.tables e below (T2.setTop (mkF m 7 #[.val (.ref a1), .val (.int (0 : Int32))] [(.int (0 : Int32)), (.ref a1)])) _
    exact kt
  obtain ⟨_, _, ⟨T4, L4, k4, n4⟩, -, X4, ⟨Lc4, hQ4, l4, y4, z4⟩, st4⟩ := Jvm.LawKit.callS X2 hx (y := (⟨"java/lang/StringUTF16", "getChar", "([BI)C"⟩ : MethodName)) hown (mvT hZ (hw _ (own_w 105 rfl))) (mvT hZ (hw _ (own_w 106 rfl))) (mvT hZ (hw _ (own_w 44 rfl))) (mvT hZ (hw _ (own_w 107 rfl))) (by decide) (backOf (W := 0) (rmgetc_0_8 l Z a0 hw [] a1 k1 b0 b1 u2 u3 u4 u5 u6 u7 h0 n0 Z0 O0 SA SH SL V1) hZ (hw _ (own_w 107 rfl)) (hw _ (own_w 44 rfl)) (by decide) (by decide)) (g := (mkF m 7 #[.val (.ref a1), .val (.int (0 : Int32))] [(.int (0 : Int32)), (.ref a1)])) rfl (by rw [hml]; rfl) (argsL := [(.ref a1), (.int (0 : Int32))]) (rest := []) (lenOf pd_5 rfl) rfl (by show 2 * 0 + _ ≤ _; exact Nat.le_of_eq rfl) (hb hby d22_7) (fun _ _ => ⟨rfl, eq2, (by decide : 0 + 0 ≤ _), (by decide : 0 + 0 ≤ _)⟩)
  dsimp only [Pt.U, Pt.locs, Pt.cells, Pt.slots] at X4 l4 y4 z4 st4 hQ4
  subst l4 y4 z4
  obtain ⟨rfl, Nq4, eq4⟩ := hQ4
  have N4 := Fr.app N2 Nq4
  have pre5 : own_Go p e below S0 (T4.setTop (mkF m 10 #[.val (.ref a1), .val (.int (0 : Int32))] [(.int (own_gc b0 b1))])) := by
    intro t kt
    refine pre3 t ?_
    refine st4 _ ?_
    show Steps p.tables e below (T4.setTop (mkF m 10 #[.val (.ref a1), .val (.int (0 : Int32))] [(.int (own_gc b0 b1))])) _
    exact kt
  obtain ⟨fs, hr, hrun, hended, hW, hsame⟩ := X4.leave (v := some (.int (nar .char (own_gc b0 b1)))) (fun h => by rw [Bd.returns] at h; cases h)
  refine ⟨_, _, fin _ (pre5 _ ?_), hrun, hended, _, _, rfl, ?_, ⟨_, rfl⟩, hW, hsame.mono (by decide) (by decide)⟩
  · exact retN X4 hx (t := .char) Bd.returns (by simp) (hb hby d22_10) hr
  · show Qu16at_0_8 Z a1 wF k1 b0 b1 u2 u3 u4 u5 u6 u7 h0 n0 _ T4.heap _
    rw [eq4]
    exact ⟨(congrArg (fun q => some (Value.int q)) (own_narChar2 _ _)), N4, rfl⟩

theorem d12_0 : decode jdk_42_method_56_code 0 = .ok (.aload_n 0, 1) := by decide +kernel
theorem d12_1 : decode jdk_42_method_56_code 1 = .ok (.invokevirtual 492, 3) := by decide +kernel
theorem d12_4 : decode jdk_42_method_56_code 4 = .ok (.ifCond .eq 12, 3) := by decide +kernel
theorem d12_7 : decode jdk_42_method_56_code 7 = .ok (.aload_n 0, 1) := by decide +kernel
theorem d12_8 : decode jdk_42_method_56_code 8 = .ok (.getfield 9, 3) := by decide +kernel
theorem d12_11 : decode jdk_42_method_56_code 11 = .ok (.iload_n 1, 1) := by decide +kernel
theorem d12_12 : decode jdk_42_method_56_code 12 = .ok (.invokestatic 495, 3) := by decide +kernel
theorem d12_15 : decode jdk_42_method_56_code 15 = .ok (.ireturn, 1) := by decide +kernel
theorem d12_16 : decode jdk_42_method_56_code 16 = .ok (.aload_n 0, 1) := by decide +kernel
theorem d12_17 : decode jdk_42_method_56_code 17 = .ok (.getfield 9, 3) := by decide +kernel
theorem d12_20 : decode jdk_42_method_56_code 20 = .ok (.iload_n 1, 1) := by decide +kernel
theorem d12_21 : decode jdk_42_method_56_code 21 = .ok (.invokestatic 498, 3) := by decide +kernel
theorem d12_24 : decode jdk_42_method_56_code 24 = .ok (.ireturn, 1) := by decide +kernel
theorem pn_12 : plainName "java/lang/String" = true := by first | (simp [plainName, overriddenIn]; done) | decide +kernel
theorem pd_13 : parseMethodDescriptor "()Z" = some ⟨[], some .boolean⟩ := by decide +kernel
theorem ef_charAt_0_4 (m : MethodId) (x0 : Addr) : entryFrame m #[(.ref x0), (.int (0 : Int32))] 2 = mkF m 0 #[.val (.ref x0), .val (.int (0 : Int32))] [] := by first | (simp [entryFrame, mkF, argsToLocals, Value.category]; done) | rfl
def QcharAt_0_4 (Z : State) (a1 : Addr) (wC : Int32) (wF : Value) (vb : Addr) (kb : ClassId) (c0 : Int32) (c1 : Int32) (c2 : Int32) (c3 : Int32) (h0 : Heap) (n0 : Nat) (v : Option Value) (h : Heap) (L : List Loc) : Prop := v = (some (.int c0)) ∧ Fr n0 L ∧ h = h0
set_option maxRecDepth 65536 in
set_option maxHeartbeats 40000000 in
theorem rmcharAt_0_4 (l : Launch) (Z : State) (a0 : Array Value) (hw : ∀ d ∈ tables_1, d.before a0 Z = true) (ws : List Jvm.Cond) (a1 : Addr) (wC : Int32) (wF : Value) (vb : Addr) (kb : ClassId) (c0 : Int32) (c1 : Int32) (c2 : Int32) (c3 : Int32) (h0 : Heap) (n0 : Nat) (Z0 : n0 ≤ h0.size) (O0 : Old Z n0 h0) (SC : Sta Z Z.heap "java/lang/String" "COMPACT_STRINGS" "Z" (.int wC)) (hC : (¬ wC = (0 : Int32))) (SA : Sta Z Z.heap "java/lang/StringUTF16" "$assertionsDisabled" "Z" (.int (1 : Int32))) (SH : Sta Z Z.heap "java/lang/StringUTF16" "HI_BYTE_SHIFT" "I" (.int (0 : Int32))) (SL : Sta Z Z.heap "java/lang/StringUTF16" "LO_BYTE_SHIFT" "I" (.int (8 : Int32))) (SF : Sta Z Z.heap "jdk/internal/util/Preconditions" "SIOOBE_FORMATTER" "Ljava/util/function/BiFunction;" wF) (hF : (wF.isRef = true)) (hS : own_Str Z h0 a1 vb kb [c0, c1, c2, c3]) :
    MetFree l (⟨"java/lang/String", "charAt", "(I)C"⟩ : MethodName) (head1 (Jvm.Cond.code (⟨"java/lang/String", "charAt", "(I)C"⟩ : MethodName) jdk_42_method_56_code 2 (some .char) :: ws) ({ frames := 4, cells := 0, slots := 0, locals := 53 } : Room)) (fun a U => a = #[(.ref a1), (.int (0 : Int32))] ∧ Z.Warmed39 U.vm ∧ U.heap = h0) (fun _ _ _ _ _ => True) (fun _ U o U' => ∃ v L, o = .returned v ∧ QcharAt_0_4 Z a1 wC wF vb kb c0 c1 c2 c3 h0 n0 v U'.heap L ∧ FrameEnd U o U' L ({ frames := 4, cells := 0, slots := 0, locals := 53 } : Room).cells ({ frames := 4, cells := 0, slots := 0, locals := 53 } : Room).slots) := by
  refine MetFree.of_bodySF (plainFor_of_name pn_12) hisR ?_
  intro p e s m args below meth c s₁ Bd hml0 hP hK
  obtain ⟨rfl, hZ, hh⟩ := hP
  have hx := Bd.exec
  have hby := Bd.bytes
  have hml : c.maxLocals = 2 := hml0
  have hown0 := findClass_of_methodNamed Bd.named
  have hown : s.vm.findClass "java/lang/String" = some m.cls := hown0
  have hnm := (name_of_methodNamed Bd.named Bd.method).1
  have X0 : Stand p l e ({ frames := 4, cells := 0, slots := 0, locals := 53 } : Room) s m #[(.ref a1), (.int (0 : Int32))] below meth c s₁ [] 0 0 := Stand.of_body Bd
  have e0 : s₁.heap = h0 := by rw [← hh, Bd.state]; rfl
  have N0 := Fr.nil n0
  obtain ⟨S0, hS0⟩ : ∃ z, z = s₁.setTop (entryFrame m #[(.ref a1), (.int (0 : Int32))] 2) := ⟨_, rfl⟩
  have pre0 : own_Go p e below S0 (s₁.setTop (mkF m 0 #[.val (.ref a1), .val (.int (0 : Int32))] [])) := fun t k => by rw [hS0]; exact castTop (ef_charAt_0_4 m a1) k
  have fin : ∀ t, Steps p.tables e below S0 t → Steps p.tables e below (s₁.setTop (entryFrame m #[(.ref a1), (.int (0 : Int32))] 2)) t := fun t k => by rw [hS0] at k; exact k
  obtain ⟨oE, oV, ⟨oK, oL, oA⟩ | ⟨oK, oL, oA⟩⟩ := hS
  · have oB : Arv Z h0 vb kb .byte (4 : Int32) [(.int (nar .byte (c0.toInt8.toInt32))), (.int (nar .byte (c1.toInt8.toInt32))), (.int (nar .byte (c2.toInt8.toInt32))), (.int (nar .byte (c3.toInt8.toInt32)))] (.int (0 : Int32)) := oA
    have pre1 : own_Go p e below S0 (s₁.setTop (mkF m 1 #[.val (.ref a1), .val (.int (0 : Int32))] [(.ref a1)])) := by
      intro t kt
      refine pre0 t ?_
      refine XS.aloadN X0.here hx rfl (hb hby d12_0) rfl rfl ?_
      show Steps p.tables e below (s₁.setTop (mkF m 1 #[.val (.ref a1), .val (.int (0 : Int32))] [(.ref a1)])) _
      exact kt
    obtain ⟨cq2, kq2, qa2, qb2, qc2⟩ := isOf hZ e0 oE
    obtain ⟨_, _, ⟨T2, L2, k2, n2⟩, -, X2, ⟨Lc2, hQ2, l2, y2, z2⟩, st2⟩ := X0.virtualBack hx (y := (⟨"java/lang/String", "isLatin1", "()Z"⟩ : MethodName)) (z := (⟨"java/lang/String", "isLatin1", "()Z"⟩ : MethodName)) hown (mvT hZ (hw _ (own_w 72 rfl))) (mvT hZ (hw _ (own_w 73 rfl))) (notFace_of_selects (args := #[]) (mvT hZ (hw _ (own_w 75 rfl)))) (mvT hZ (hw _ (own_w 75 rfl))) (mvT hZ (hw _ (own_w 74 rfl))) (by decide) (backOf (W := 0) (rmisLat0 l Z a0 hw [] a1 wC h0 n0 Z0 O0 SC hC oK) hZ (hw _ (own_w 76 rfl)) (hw _ (own_w 31 rfl)) (by decide) (by decide)) qa2 qc2 (g := (mkF m 1 #[.val (.ref a1), .val (.int (0 : Int32))] [(.ref a1)])) rfl (by rw [hml]; rfl) (Steps.refl _) (argsL := []) (rest := []) (lenOf pd_13 rfl) rfl (by show 2 * 0 + _ ≤ _; exact Nat.le_of_eq rfl) (hb hby d12_1) (fun _ _ => ⟨rfl, e0, (by decide : 0 + 0 ≤ _), (by decide : 0 + 0 ≤ _)⟩)
    dsimp only [Pt.U, Pt.locs, Pt.cells, Pt.slots] at X2 l2 y2 z2 st2 hQ2
    subst l2 y2 z2
    obtain ⟨rfl, Nq2, eq2⟩ := hQ2
    have N2 := Fr.app N0 Nq2
    have pre3 : own_Go p e below S0 (T2.setTop (mkF m 8 #[.val (.ref a1), .val (.int (0 : Int32))] [(.ref a1)])) := by
      intro t kt
      refine pre1 t ?_
      refine st2.trans ?_
      show Steps p.tables e below (T2.setTop (mkF m 4 #[.val (.ref a1), .val (.int (0 : Int32))] [(.int (1 : Int32))])) _
      refine XS.ifNo X2.here hx rfl (hb hby d12_4) rfl ((if0 _ _).trans (feq (by decide : ¬ ((1 : Int32) = (0 : Int32)))).1) ?_
      show Steps p.tables e below (T2.setTop (mkF m 7 #[.val (.ref a1), .val (.int (0 : Int32))] [])) _
      refine XS.aloadN X2.here hx rfl (hb hby d12_7) rfl rfl ?_
      show Steps p.tables e below (T2.setTop (mkF m 8 #[.val (.ref a1), .val (.int (0 : Int32))] [(.ref a1)])) _
      exact kt
    obtain ⟨T4, X4, e4, st4⟩ := getF X2 hx hZ hown (host := "") (Or.inl (hw _ (own_w 55 rfl))) Via.refl eq2 oV (g := (mkF m 8 #[.val (.ref a1), .val (.int (0 : Int32))] [(.ref a1)])) rfl rfl (hb hby d12_8)
    have pre5 : own_Go p e below S0 (T4.setTop (mkF m 12 #[.val (.ref a1), .val (.int (0 : Int32))] [(.int (0 : Int32)), (.ref vb)])) := by
      intro t kt
      refine pre3 t ?_
      refine st4 _ ?_
      show Steps p.tables e below (T4.setTop (mkF m 11 #[.val (.ref a1), .val (.int (0 : Int32))] [(.ref vb)])) _
      refine XS.iloadN X4.here hx rfl (hb hby d12_11) rfl ?_
      show Steps p.tables e below (T4.setTop (mkF m 12 #[.val (.ref a1), .val (.int (0 : Int32))] [(.int (0 : Int32)), (.ref vb)])) _
      exact kt
    obtain ⟨_, _, ⟨T6, L6, k6, n6⟩, -, X6, ⟨Lc6, hQ6, l6, y6, z6⟩, st6⟩ := Jvm.LawKit.callS X4 hx (y := (⟨"java/lang/StringLatin1", "charAt", "([BI)C"⟩ : MethodName)) hown (mvT hZ (hw _ (own_w 77 rfl))) (mvT hZ (hw _ (own_w 78 rfl))) (mvT hZ (hw _ (own_w 79 rfl))) (mvT hZ (hw _ (own_w 80 rfl))) (by decide) (backOf (W := 0) (rml1at l Z a0 hw [] vb (0 : Int32) wF kb (4 : Int32) [(.int (nar .byte (c0.toInt8.toInt32))), (.int (nar .byte (c1.toInt8.toInt32))), (.int (nar .byte (c2.toInt8.toInt32))), (.int (nar .byte (c3.toInt8.toInt32)))] (.int (0 : Int32)) (nar .byte (c0.toInt8.toInt32)) h0 n0 Z0 O0 SF hF oB (by decide) (by decide) rfl) hZ (hw _ (own_w 80 rfl)) (hw _ (own_w 79 rfl)) (by decide) (by decide)) (g := (mkF m 12 #[.val (.ref a1), .val (.int (0 : Int32))] [(.int (0 : Int32)), (.ref vb)])) rfl (by rw [hml]; rfl) (argsL := [(.ref vb), (.int (0 : Int32))]) (rest := []) (lenOf pd_5 rfl) rfl (by show 2 * 0 + _ ≤ _; exact Nat.le_of_eq rfl) (hb hby d12_12) (fun _ _ => ⟨rfl, e4, (by decide : 0 + 0 ≤ _), (by decide : 0 + 0 ≤ _)⟩)
    dsimp only [Pt.U, Pt.locs, Pt.cells, Pt.slots] at X6 l6 y6 z6 st6 hQ6
    subst l6 y6 z6
    obtain ⟨rfl, Nq6, eq6⟩ := hQ6
    have N6 := Fr.app N2 Nq6
    have pre7 : own_Go p e below S0 (T6.setTop (mkF m 15 #[.val (.ref a1), .val (.int (0 : Int32))] [(.int (own_lc (nar .byte (c0.toInt8.toInt32))))])) := by
      intro t kt
      refine pre5 t ?_
      refine st6 _ ?_
      show Steps p.tables e below (T6.setTop (mkF m 15 #[.val (.ref a1), .val (.int (0 : Int32))] [(.int (own_lc (nar .byte (c0.toInt8.toInt32))))])) _
      exact kt
    obtain ⟨fs, hr, hrun, hended, hW, hsame⟩ := X6.leave (v := some (.int (nar .char (own_lc (nar .byte (c0.toInt8.toInt32)))))) (fun h => by rw [Bd.returns] at h; cases h)
    refine ⟨_, _, fin _ (pre7 _ ?_), hrun, hended, _, _, rfl, ?_, ⟨_, rfl⟩, hW, hsame.mono (by decide) (by decide)⟩
    · exact retN X6 hx (t := .char) Bd.returns (by simp) (hb hby d12_15) hr
    · show QcharAt_0_4 Z a1 wC wF vb kb c0 c1 c2 c3 h0 n0 _ T6.heap _
      rw [eq6]
      exact ⟨(by show some (Value.int (nar .char _)) = _; rw [own_latget c0 oL.1, own_narChar c0 oL.1.1 (by have q := oL.1; omega)]), N6, rfl⟩
  · have oB : Arv Z h0 vb kb .byte (8 : Int32) [(.int (nar .byte ((c0 >>> ((0 : Int32) &&& 31)).toInt8.toInt32))), (.int (nar .byte ((c0 >>> ((8 : Int32) &&& 31)).toInt8.toInt32))), (.int (nar .byte ((c1 >>> ((0 : Int32) &&& 31)).toInt8.toInt32))), (.int (nar .byte ((c1 >>> ((8 : Int32) &&& 31)).toInt8.toInt32))), (.int (nar .byte ((c2 >>> ((0 : Int32) &&& 31)).toInt8.toInt32))), (.int (nar .byte ((c2 >>> ((8 : Int32) &&& 31)).toInt8.toInt32))), (.int (nar .byte ((c3 >>> ((0 : Int32) &&& 31)).toInt8.toInt32))), (.int (nar .byte ((c3 >>> ((8 : Int32) &&& 31)).toInt8.toInt32)))] (.int (0 : Int32)) := oA
    have pre8 : own_Go p e below S0 (s₁.setTop (mkF m 1 #[.val (.ref a1), .val (.int (0 : Int32))] [(.ref a1)])) := by
      intro t kt
      refine pre0 t ?_
      refine XS.aloadN X0.here hx rfl (hb hby d12_0) rfl rfl ?_
      show Steps p.tables e below (s₁.setTop (mkF m 1 #[.val (.ref a1), .val (.int (0 : Int32))] [(.ref a1)])) _
      exact kt
    obtain ⟨cq9, kq9, qa9, qb9, qc9⟩ := isOf hZ e0 oE
    obtain ⟨_, _, ⟨T9, L9, k9, n9⟩, -, X9, ⟨Lc9, hQ9, l9, y9, z9⟩, st9⟩ := X0.virtualBack hx (y := (⟨"java/lang/String", "isLatin1", "()Z"⟩ : MethodName)) (z := (⟨"java/lang/String", "isLatin1", "()Z"⟩ : MethodName)) hown (mvT hZ (hw _ (own_w 72 rfl))) (mvT hZ (hw _ (own_w 73 rfl))) (notFace_of_selects (args := #[]) (mvT hZ (hw _ (own_w 75 rfl)))) (mvT hZ (hw _ (own_w 75 rfl))) (mvT hZ (hw _ (own_w 74 rfl))) (by decide) (backOf (W := 0) (rmisLat1 l Z a0 hw [] a1 wC h0 n0 Z0 O0 SC hC oK) hZ (hw _ (own_w 76 rfl)) (hw _ (own_w 31 rfl)) (by decide) (by decide)) qa9 qc9 (g := (mkF m 1 #[.val (.ref a1), .val (.int (0 : Int32))] [(.ref a1)])) rfl (by rw [hml]; rfl) (Steps.refl _) (argsL := []) (rest := []) (lenOf pd_13 rfl) rfl (by show 2 * 0 + _ ≤ _; exact Nat.le_of_eq rfl) (hb hby d12_1) (fun _ _ => ⟨rfl, e0, (by decide : 0 + 0 ≤ _), (by decide : 0 + 0 ≤ _)⟩)
    dsimp only [Pt.U, Pt.locs, Pt.cells, Pt.slots] at X9 l9 y9 z9 st9 hQ9
    subst l9 y9 z9
    obtain ⟨rfl, Nq9, eq9⟩ := hQ9
    have N9 := Fr.app N0 Nq9
    have pre10 : own_Go p e below S0 (T9.setTop (mkF m 17 #[.val (.ref a1), .val (.int (0 : Int32))] [(.ref a1)])) := by
      intro t kt
      refine pre8 t ?_
      refine st9.trans ?_
      show Steps p.tables e below (T9.setTop (mkF m 4 #[.val (.ref a1), .val (.int (0 : Int32))] [(.int (0 : Int32))])) _
      refine XS.ifYes X9.here hx rfl (pc0 := 4) (pc' := 16) rfl (hb hby d12_4) rfl ((if0 _ _).trans (teq (by decide : (0 : Int32) = (0 : Int32))).1) (by decide) (by decide) ?_
      show Steps p.tables e below (T9.setTop (mkF m 16 #[.val (.ref a1), .val (.int (0 : Int32))] [])) _
      refine XS.aloadN X9.here hx rfl (hb hby d12_16) rfl rfl ?_
      show Steps p.tables e below (T9.setTop (mkF m 17 #[.val (.ref a1), .val (.int (0 : Int32))] [(.ref a1)])) _
      exact kt
    obtain ⟨T11, X11, e11, st11⟩ := getF X9 hx hZ hown (host := "") (Or.inl (hw _ (own_w 55 rfl))) Via.refl eq9 oV (g := (mkF m 17 #[.val (.ref a1), .val (.int (0 : Int32))] [(.ref a1)])) rfl rfl (hb hby d12_17)
    have pre12 : own_Go p e below S0 (T11.setTop (mkF m 21 #[.val (.ref a1), .val (.int (0 : Int32))] [(.int (0 : Int32)), (.ref vb)])) := by
      intro t kt
      refine pre10 t ?_
      refine st11 _ ?_
      show Steps p.tables e below (T11.setTop (mkF m 20 #[.val (.ref a1), .val (.int (0 : Int32))] [(.ref vb)])) _
      refine XS.iloadN X11.here hx rfl (hb hby d12_20) rfl ?_
      show Steps p.tables e below (T11.setTop (mkF m 21 #[.val (.ref a1), .val (.int (0 : Int32))] [(.int (0 : Int32)), (.ref vb)])) _
      exact kt
    obtain ⟨_, _, ⟨T13, L13, k13, n13⟩, -, X13, ⟨Lc13, hQ13, l13, y13, z13⟩, st13⟩ := Jvm.LawKit.callS X11 hx (y := (⟨"java/lang/StringUTF16", "charAt", "([BI)C"⟩ : MethodName)) hown (mvT hZ (hw _ (own_w 108 rfl))) (mvT hZ (hw _ (own_w 109 rfl))) (mvT hZ (hw _ (own_w 44 rfl))) (mvT hZ (hw _ (own_w 110 rfl))) (by decide) (backOf (W := 0) (rmu16at_0_8 l Z a0 hw [] vb wF kb (nar .byte ((c0 >>> ((0 : Int32) &&& 31)).toInt8.toInt32)) (nar .byte ((c0 >>> ((8 : Int32) &&& 31)).toInt8.toInt32)) (.int (nar .byte ((c1 >>> ((0 : Int32) &&& 31)).toInt8.toInt32))) (.int (nar .byte ((c1 >>> ((8 : Int32) &&& 31)).toInt8.toInt32))) (.int (nar .byte ((c2 >>> ((0 : Int32) &&& 31)).toInt8.toInt32))) (.int (nar .byte ((c2 >>> ((8 : Int32) &&& 31)).toInt8.toInt32))) (.int (nar .byte ((c3 >>> ((0 : Int32) &&& 31)).toInt8.toInt32))) (.int (nar .byte ((c3 >>> ((8 : Int32) &&& 31)).toInt8.toInt32))) h0 n0 Z0 O0 SA SH SL SF hF oB) hZ (hw _ (own_w 110 rfl)) (hw _ (own_w 44 rfl)) (by decide) (by decide)) (g := (mkF m 21 #[.val (.ref a1), .val (.int (0 : Int32))] [(.int (0 : Int32)), (.ref vb)])) rfl (by rw [hml]; rfl) (argsL := [(.ref vb), (.int (0 : Int32))]) (rest := []) (lenOf pd_5 rfl) rfl (by show 2 * 0 + _ ≤ _; exact Nat.le_of_eq rfl) (hb hby d12_21) (fun _ _ => ⟨rfl, e11, (by decide : 0 + 0 ≤ _), (by decide : 0 + 0 ≤ _)⟩)
    dsimp only [Pt.U, Pt.locs, Pt.cells, Pt.slots] at X13 l13 y13 z13 st13 hQ13
    subst l13 y13 z13
    obtain ⟨rfl, Nq13, eq13⟩ := hQ13
    have N13 := Fr.app N9 Nq13
    have pre14 : own_Go p e below S0 (T13.setTop (mkF m 24 #[.val (.ref a1), .val (.int (0 : Int32))] [(.int (own_gc (nar .byte ((c0 >>> ((0 : Int32) &&& 31)).toInt8.toInt32)) (nar .byte ((c0 >>> ((8 : Int32) &&& 31)).toInt8.toInt32))))])) := by
      intro t kt
      refine pre12 t ?_
      refine st13 _ ?_
      show Steps p.tables e below (T13.setTop (mkF m 24 #[.val (.ref a1), .val (.int (0 : Int32))] [(.int (own_gc (nar .byte ((c0 >>> ((0 : Int32) &&& 31)).toInt8.toInt32)) (nar .byte ((c0 >>> ((8 : Int32) &&& 31)).toInt8.toInt32))))])) _
      exact kt
    obtain ⟨fs, hr, hrun, hended, hW, hsame⟩ := X13.leave (v := some (.int (nar .char (own_gc (nar .byte ((c0 >>> ((0 : Int32) &&& 31)).toInt8.toInt32)) (nar .byte ((c0 >>> ((8 : Int32) &&& 31)).toInt8.toInt32)))))) (fun h => by rw [Bd.returns] at h; cases h)
    refine ⟨_, _, fin _ (pre14 _ ?_), hrun, hended, _, _, rfl, ?_, ⟨_, rfl⟩, hW, hsame.mono (by decide) (by decide)⟩
    · exact retN X13 hx (t := .char) Bd.returns (by simp) (hb hby d12_24) hr
    · show QcharAt_0_4 Z a1 wC wF vb kb c0 c1 c2 c3 h0 n0 _ T13.heap _
      rw [eq13]
      exact ⟨(by show some (Value.int (nar .char _)) = _; rw [own_utfget c0 oL.1, own_narChar c0 oL.1.1 (by have q := oL.1; omega)]), N13, rfl⟩

theorem ef_u16ck_1_8 (m : MethodId) (x1 : Addr) : entryFrame m #[(.int (1 : Int32)), (.ref x1)] 2 = mkF m 0 #[.val (.int (1 : Int32)), .val (.ref x1)] [] := by first | (simp [entryFrame, mkF, argsToLocals, Value.category]; done) | rfl
def Qu16ck_1_8 (Z : State) (a2 : Addr) (wF : Value) (k1 : ClassId) (vs : List Value) (d1 : Value) (h0 : Heap) (n0 : Nat) (v : Option Value) (h : Heap) (L : List Loc) : Prop := v = none ∧ Fr n0 L ∧ h = h0
set_option maxRecDepth 65536 in
set_option maxHeartbeats 40000000 in
theorem rmu16ck_1_8 (l : Launch) (Z : State) (a0 : Array Value) (hw : ∀ d ∈ tables_1, d.before a0 Z = true) (ws : List Jvm.Cond) (a2 : Addr) (wF : Value) (k1 : ClassId) (vs : List Value) (d1 : Value) (h0 : Heap) (n0 : Nat) (Z0 : n0 ≤ h0.size) (O0 : Old Z n0 h0) (SF : Sta Z Z.heap "jdk/internal/util/Preconditions" "SIOOBE_FORMATTER" "Ljava/util/function/BiFunction;" wF) (hF : (wF.isRef = true)) (V1 : Arv Z h0 a2 k1 .byte (8 : Int32) vs d1) :
    MetFree l (⟨"java/lang/StringUTF16", "checkIndex", "(I[B)V"⟩ : MethodName) (head1 (Jvm.Cond.code (⟨"java/lang/StringUTF16", "checkIndex", "(I[B)V"⟩ : MethodName) jdk_52_method_91_code 2 none :: ws) ({ frames := 2, cells := 0, slots := 0, locals := 27 } : Room)) (fun a U => a = #[(.int (1 : Int32)), (.ref a2)] ∧ Z.Warmed39 U.vm ∧ U.heap = h0) (fun _ _ _ _ _ => True) (fun _ U o U' => ∃ v L, o = .returned v ∧ Qu16ck_1_8 Z a2 wF k1 vs d1 h0 n0 v U'.heap L ∧ FrameEnd U o U' L ({ frames := 2, cells := 0, slots := 0, locals := 27 } : Room).cells ({ frames := 2, cells := 0, slots := 0, locals := 27 } : Room).slots) := by
  refine MetFree.of_bodySF (plainFor_of_name pn_23) hisR ?_
  intro p e s m args below meth c s₁ Bd hml0 hP hK
  obtain ⟨rfl, hZ, hh⟩ := hP
  have hx := Bd.exec
  have hby := Bd.bytes
  have hml : c.maxLocals = 2 := hml0
  have hown0 := findClass_of_methodNamed Bd.named
  have hown : s.vm.findClass "java/lang/StringUTF16" = some m.cls := hown0
  have hnm := (name_of_methodNamed Bd.named Bd.method).1
  have X0 : Stand p l e ({ frames := 2, cells := 0, slots := 0, locals := 27 } : Room) s m #[(.int (1 : Int32)), (.ref a2)] below meth c s₁ [] 0 0 := Stand.of_body Bd
  have e0 : s₁.heap = h0 := by rw [← hh, Bd.state]; rfl
  have N0 := Fr.nil n0
  obtain ⟨S0, hS0⟩ : ∃ z, z = s₁.setTop (entryFrame m #[(.int (1 : Int32)), (.ref a2)] 2) := ⟨_, rfl⟩
  have pre0 : own_Go p e below S0 (s₁.setTop (mkF m 0 #[.val (.int (1 : Int32)), .val (.ref a2)] [])) := fun t k => by rw [hS0]; exact castTop (ef_u16ck_1_8 m a2) k
  have fin : ∀ t, Steps p.tables e below S0 t → Steps p.tables e below (s₁.setTop (entryFrame m #[(.int (1 : Int32)), (.ref a2)] 2)) t := fun t k => by rw [hS0] at k; exact k
  have pre1 : own_Go p e below S0 (s₁.setTop (mkF m 2 #[.val (.int (1 : Int32)), .val (.ref a2)] [(.ref a2), (.int (1 : Int32))])) := by
    intro t kt
    refine pre0 t ?_
    refine XS.iloadN X0.here hx rfl (hb hby d23_0) rfl ?_
    show Steps p.tables e below (s₁.setTop (mkF m 1 #[.val (.int (1 : Int32)), .val (.ref a2)] [(.int (1 : Int32))])) _
    refine XS.aloadN X0.here hx rfl (hb hby d23_1) rfl rfl ?_
    show Steps p.tables e below (s₁.setTop (mkF m 2 #[.val (.int (1 : Int32)), .val (.ref a2)] [(.ref a2), (.int (1 : Int32))])) _
    exact kt
  obtain ⟨_, _, ⟨T2, L2, k2, n2⟩, -, X2, ⟨Lc2, hQ2, l2, y2, z2⟩, st2⟩ := Jvm.LawKit.callS X0 hx (y := (⟨"java/lang/StringUTF16", "length", "([B)I"⟩ : MethodName)) hown (mvT hZ (hw _ (own_w 114 rfl))) (mvT hZ (hw _ (own_w 115 rfl))) (mvT hZ (hw _ (own_w 44 rfl))) (mvT hZ (hw _ (own_w 116 rfl))) (by decide) (backOf (W := 1) (rmu16len_8 l Z a0 hw [] a2 k1 vs d1 h0 n0 Z0 V1) hZ (hw _ (own_w 116 rfl)) (hw _ (own_w 44 rfl)) (by decide) (by decide)) (g := (mkF m 2 #[.val (.int (1 : Int32)), .val (.ref a2)] [(.ref a2), (.int (1 : Int32))])) rfl (by rw [hml]; rfl) (argsL := [(.ref a2)]) (rest := [(.int (1 : Int32))]) (lenOf pd_11 rfl) rfl (by show 2 * 0 + _ ≤ _; exact Nat.le_of_eq rfl) (hb hby d23_2) (fun _ _ => ⟨rfl, e0, (by decide : 0 + 0 ≤ _), (by decide : 0 + 0 ≤ _)⟩)
  dsimp only [Pt.U, Pt.locs, Pt.cells, Pt.slots] at X2 l2 y2 z2 st2 hQ2
  subst l2 y2 z2
  obtain ⟨rfl, Nq2, eq2⟩ := hQ2
  have N2 := Fr.app N0 Nq2
  have pre3 : own_Go p e below S0 (T2.setTop (mkF m 5 #[.val (.int (1 : Int32)), .val (.ref a2)] [(.int (4 : Int32)), (.int (1 : Int32))])) := by
    intro t kt
    refine pre1 t ?_
    refine st2 _ ?_
    show Steps p.tables e below (T2.setTop (mkF m 5 #[.val (.int (1 : Int32)), .val (.ref a2)] [(.int (4 : Int32)), (.int (1 : Int32))])) _
    exact kt
  obtain ⟨_, _, ⟨T4, L4, k4, n4⟩, -, X4, ⟨Lc4, hQ4, l4, y4, z4⟩, st4⟩ := Jvm.LawKit.callS X2 hx (y := (⟨"java/lang/String", "checkIndex", "(II)V"⟩ : MethodName)) hown (mvT hZ (hw _ (own_w 117 rfl))) (mvT hZ (hw _ (own_w 82 rfl))) (mvT hZ (hw _ (own_w 31 rfl))) (mvT hZ (hw _ (own_w 83 rfl))) (by decide) (backOf (W := 0) (rmsck l Z a0 hw [] (1 : Int32) (4 : Int32) wF h0 n0 Z0 O0 SF hF (by decide) (by decide)) hZ (hw _ (own_w 83 rfl)) (hw _ (own_w 31 rfl)) (by decide) (by decide)) (g := (mkF m 5 #[.val (.int (1 : Int32)), .val (.ref a2)] [(.int (4 : Int32)), (.int (1 : Int32))])) rfl (by rw [hml]; rfl) (argsL := [(.int (1 : Int32)), (.int (4 : Int32))]) (rest := []) (lenOf pd_10 rfl) rfl (by show 2 * 0 + _ ≤ _; exact Nat.le_of_eq rfl) (hb hby d23_5) (fun _ _ => ⟨rfl, eq2, (by decide : 0 + 0 ≤ _), (by decide : 0 + 0 ≤ _)⟩)
  dsimp only [Pt.U, Pt.locs, Pt.cells, Pt.slots] at X4 l4 y4 z4 st4 hQ4
  subst l4 y4 z4
  obtain ⟨rfl, Nq4, eq4⟩ := hQ4
  have N4 := Fr.app N2 Nq4
  have pre5 : own_Go p e below S0 (T4.setTop (mkF m 8 #[.val (.int (1 : Int32)), .val (.ref a2)] [])) := by
    intro t kt
    refine pre3 t ?_
    refine st4 _ ?_
    show Steps p.tables e below (T4.setTop (mkF m 8 #[.val (.int (1 : Int32)), .val (.ref a2)] [])) _
    exact kt
  obtain ⟨fs, hr, hrun, hended, hW, hsame⟩ := X4.leave (v := none) (fun _ => rfl)
  refine ⟨_, _, fin _ (pre5 _ ?_), hrun, hended, _, _, rfl, ?_, ⟨_, rfl⟩, hW, hsame.mono (by decide) (by decide)⟩
  · exact X4.returnOut hx Bd.returns (hb hby d23_8) hr
  · show Qu16ck_1_8 Z a2 wF k1 vs d1 h0 n0 _ T4.heap _
    rw [eq4]
    exact ⟨rfl, N4, rfl⟩

theorem ef_u16at_1_8 (m : MethodId) (x0 : Addr) : entryFrame m #[(.ref x0), (.int (1 : Int32))] 2 = mkF m 0 #[.val (.ref x0), .val (.int (1 : Int32))] [] := by first | (simp [entryFrame, mkF, argsToLocals, Value.category]; done) | rfl
def Qu16at_1_8 (Z : State) (a1 : Addr) (wF : Value) (k1 : ClassId) (b0 : Int32) (b1 : Int32) (u0 : Value) (u1 : Value) (u4 : Value) (u5 : Value) (u6 : Value) (u7 : Value) (h0 : Heap) (n0 : Nat) (v : Option Value) (h : Heap) (L : List Loc) : Prop := v = (some (.int (own_gc b0 b1))) ∧ Fr n0 L ∧ h = h0
set_option maxRecDepth 65536 in
set_option maxHeartbeats 40000000 in
theorem rmu16at_1_8 (l : Launch) (Z : State) (a0 : Array Value) (hw : ∀ d ∈ tables_1, d.before a0 Z = true) (ws : List Jvm.Cond) (a1 : Addr) (wF : Value) (k1 : ClassId) (b0 : Int32) (b1 : Int32) (u0 : Value) (u1 : Value) (u4 : Value) (u5 : Value) (u6 : Value) (u7 : Value) (h0 : Heap) (n0 : Nat) (Z0 : n0 ≤ h0.size) (O0 : Old Z n0 h0) (SA : Sta Z Z.heap "java/lang/StringUTF16" "$assertionsDisabled" "Z" (.int (1 : Int32))) (SH : Sta Z Z.heap "java/lang/StringUTF16" "HI_BYTE_SHIFT" "I" (.int (0 : Int32))) (SL : Sta Z Z.heap "java/lang/StringUTF16" "LO_BYTE_SHIFT" "I" (.int (8 : Int32))) (SF : Sta Z Z.heap "jdk/internal/util/Preconditions" "SIOOBE_FORMATTER" "Ljava/util/function/BiFunction;" wF) (hF : (wF.isRef = true)) (V1 : Arv Z h0 a1 k1 .byte (8 : Int32) [u0, u1, (.int b0), (.int b1), u4, u5, u6, u7] (.int (0 : Int32))) :
    MetFree l (⟨"java/lang/StringUTF16", "charAt", "([BI)C"⟩ : MethodName) (head1 (Jvm.Cond.code (⟨"java/lang/StringUTF16", "charAt", "([BI)C"⟩ : MethodName) jdk_52_method_83_code 2 (some .char) :: ws) ({ frames := 3, cells := 0, slots := 0, locals := 40 } : Room)) (fun a U => a = #[(.ref a1), (.int (1 : Int32))] ∧ Z.Warmed39 U.vm ∧ U.heap = h0) (fun _ _ _ _ _ => True) (fun _ U o U' => ∃ v L, o = .returned v ∧ Qu16at_1_8 Z a1 wF k1 b0 b1 u0 u1 u4 u5 u6 u7 h0 n0 v U'.heap L ∧ FrameEnd U o U' L ({ frames := 3, cells := 0, slots := 0, locals := 40 } : Room).cells ({ frames := 3, cells := 0, slots := 0, locals := 40 } : Room).slots) := by
  refine MetFree.of_bodySF (plainFor_of_name pn_22) hisR ?_
  intro p e s m args below meth c s₁ Bd hml0 hP hK
  obtain ⟨rfl, hZ, hh⟩ := hP
  have hx := Bd.exec
  have hby := Bd.bytes
  have hml : c.maxLocals = 2 := hml0
  have hown0 := findClass_of_methodNamed Bd.named
  have hown : s.vm.findClass "java/lang/StringUTF16" = some m.cls := hown0
  have hnm := (name_of_methodNamed Bd.named Bd.method).1
  have X0 : Stand p l e ({ frames := 3, cells := 0, slots := 0, locals := 40 } : Room) s m #[(.ref a1), (.int (1 : Int32))] below meth c s₁ [] 0 0 := Stand.of_body Bd
  have e0 : s₁.heap = h0 := by rw [← hh, Bd.state]; rfl
  have N0 := Fr.nil n0
  obtain ⟨S0, hS0⟩ : ∃ z, z = s₁.setTop (entryFrame m #[(.ref a1), (.int (1 : Int32))] 2) := ⟨_, rfl⟩
  have pre0 : own_Go p e below S0 (s₁.setTop (mkF m 0 #[.val (.ref a1), .val (.int (1 : Int32))] [])) := fun t k => by rw [hS0]; exact castTop (ef_u16at_1_8 m a1) k
  have fin : ∀ t, Steps p.tables e below S0 t → Steps p.tables e below (s₁.setTop (entryFrame m #[(.ref a1), (.int (1 : Int32))] 2)) t := fun t k => by rw [hS0] at k; exact k
  have pre1 : own_Go p e below S0 (s₁.setTop (mkF m 2 #[.val (.ref a1), .val (.int (1 : Int32))] [(.ref a1), (.int (1 : Int32))])) := by
    intro t kt
    refine pre0 t ?_
    refine XS.iloadN X0.here hx rfl (hb hby d22_0) rfl ?_
    show Steps p.tables e below (s₁.setTop (mkF m 1 #[.val (.ref a1), .val (.int (1 : Int32))] [(.int (1 : Int32))])) _
    refine XS.aloadN X0.here hx rfl (hb hby d22_1) rfl rfl ?_
    show Steps p.tables e below (s₁.setTop (mkF m 2 #[.val (.ref a1), .val (.int (1 : Int32))] [(.ref a1), (.int (1 : Int32))])) _
    exact kt
  obtain ⟨_, _, ⟨T2, L2, k2, n2⟩, -, X2, ⟨Lc2, hQ2, l2, y2, z2⟩, st2⟩ := Jvm.LawKit.callS X0 hx (y := (⟨"java/lang/StringUTF16", "checkIndex", "(I[B)V"⟩ : MethodName)) hown (mvT hZ (hw _ (own_w 111 rfl))) (mvT hZ (hw _ (own_w 112 rfl))) (mvT hZ (hw _ (own_w 44 rfl))) (mvT hZ (hw _ (own_w 113 rfl))) (by decide) (backOf (W := 0) (rmu16ck_1_8 l Z a0 hw [] a1 wF k1 [u0, u1, (.int b0), (.int b1), u4, u5, u6, u7] (.int (0 : Int32)) h0 n0 Z0 O0 SF hF V1) hZ (hw _ (own_w 113 rfl)) (hw _ (own_w 44 rfl)) (by decide) (by decide)) (g := (mkF m 2 #[.val (.ref a1), .val (.int (1 : Int32))] [(.ref a1), (.int (1 : Int32))])) rfl (by rw [hml]; rfl) (argsL := [(.int (1 : Int32)), (.ref a1)]) (rest := []) (lenOf pd_12 rfl) rfl (by show 2 * 0 + _ ≤ _; exact Nat.le_of_eq rfl) (hb hby d22_2) (fun _ _ => ⟨rfl, e0, (by decide : 0 + 0 ≤ _), (by decide : 0 + 0 ≤ _)⟩)
  dsimp only [Pt.U, Pt.locs, Pt.cells, Pt.slots] at X2 l2 y2 z2 st2 hQ2
  subst l2 y2 z2
  obtain ⟨rfl, Nq2, eq2⟩ := hQ2
  have N2 := Fr.app N0 Nq2
  have pre3 : own_Go p e below S0 (T2.setTop (mkF m 7 #[.val (.ref a1), .val (.int (1 : Int32))] [(.int (1 : Int32)), (.ref a1)])) := by
    intro t kt
    refine pre1 t ?_
    refine st2 _ ?_
    show Steps p.tables e below (T2.setTop (mkF m 5 #[.val (.ref a1), .val (.int (1 : Int32))] [])) _
    refine XS.aloadN X2.here hx rfl (hb hby d22_5) rfl rfl ?_
    show Steps p.tables e below (T2.setTop (mkF m 6 #[.val (.ref a1), .val (.int (1 : Int32))] [(.ref a1)])) _
    refine XS.iloadN X2.here hx rfl (hb hby d22_6) rfl ?_
    show Steps p.tables e below (T2.setTop (mkF m 7 #[.val (.ref a1), .val (.int (1 : Int32))] [(.int (1 : Int32)), (.ref a1)])) _
    exact kt
  obtain ⟨_, _, ⟨T4, L4, k4, n4⟩, -, X4, ⟨Lc4, hQ4, l4, y4, z4⟩, st4⟩ := Jvm.LawKit.callS X2 hx (y := (⟨"java/lang/StringUTF16", "getChar", "([BI)C"⟩ : MethodName)) hown (mvT hZ (hw _ (own_w 105 rfl))) (mvT hZ (hw _ (own_w 106 rfl))) (mvT hZ (hw _ (own_w 44 rfl))) (mvT hZ (hw _ (own_w 107 rfl))) (by decide) (backOf (W := 0) (rmgetc_1_8 l Z a0 hw [] a1 k1 b0 b1 u0 u1 u4 u5 u6 u7 h0 n0 Z0 O0 SA SH SL V1) hZ (hw _ (own_w 107 rfl)) (hw _ (own_w 44 rfl)) (by decide) (by decide)) (g := (mkF m 7 #[.val (.ref a1), .val (.int (1 : Int32))] [(.int (1 : Int32)), (.ref a1)])) rfl (by rw [hml]; rfl) (argsL := [(.ref a1), (.int (1 : Int32))]) (rest := []) (lenOf pd_5 rfl) rfl (by show 2 * 0 + _ ≤ _; exact Nat.le_of_eq rfl) (hb hby d22_7) (fun _ _ => ⟨rfl, eq2, (by decide : 0 + 0 ≤ _), (by decide : 0 + 0 ≤ _)⟩)
  dsimp only [Pt.U, Pt.locs, Pt.cells, Pt.slots] at X4 l4 y4 z4 st4 hQ4
  subst l4 y4 z4
  obtain ⟨rfl, Nq4, eq4⟩ := hQ4
  have N4 := Fr.app N2 Nq4
  have pre5 : own_Go p e below S0 (T4.setTop (mkF m 10 #[.val (.ref a1), .val (.int (1 : Int32))] [(.int (own_gc b0 b1))])) := by
    intro t kt
    refine pre3 t ?_
    refine st4 _ ?_
    show Steps p.tables e below (T4.setTop (mkF m 10 #[.val (.ref a1), .val (.int (1 : Int32))] [(.int (own_gc b0 b1))])) _
    exact kt
  obtain ⟨fs, hr, hrun, hended, hW, hsame⟩ := X4.leave (v := some (.int (nar .char (own_gc b0 b1)))) (fun h => by rw [Bd.returns] at h; cases h)
  refine ⟨_, _, fin _ (pre5 _ ?_), hrun, hended, _, _, rfl, ?_, ⟨_, rfl⟩, hW, hsame.mono (by decide) (by decide)⟩
  · exact retN X4 hx (t := .char) Bd.returns (by simp) (hb hby d22_10) hr
  · show Qu16at_1_8 Z a1 wF k1 b0 b1 u0 u1 u4 u5 u6 u7 h0 n0 _ T4.heap _
    rw [eq4]
    exact ⟨(congrArg (fun q => some (Value.int q)) (own_narChar2 _ _)), N4, rfl⟩

theorem ef_charAt_1_4 (m : MethodId) (x0 : Addr) : entryFrame m #[(.ref x0), (.int (1 : Int32))] 2 = mkF m 0 #[.val (.ref x0), .val (.int (1 : Int32))] [] := by first | (simp [entryFrame, mkF, argsToLocals, Value.category]; done) | rfl
def QcharAt_1_4 (Z : State) (a1 : Addr) (wC : Int32) (wF : Value) (vb : Addr) (kb : ClassId) (c0 : Int32) (c1 : Int32) (c2 : Int32) (c3 : Int32) (h0 : Heap) (n0 : Nat) (v : Option Value) (h : Heap) (L : List Loc) : Prop := v = (some (.int c1)) ∧ Fr n0 L ∧ h = h0
set_option maxRecDepth 65536 in
set_option maxHeartbeats 40000000 in
theorem rmcharAt_1_4 (l : Launch) (Z : State) (a0 : Array Value) (hw : ∀ d ∈ tables_1, d.before a0 Z = true) (ws : List Jvm.Cond) (a1 : Addr) (wC : Int32) (wF : Value) (vb : Addr) (kb : ClassId) (c0 : Int32) (c1 : Int32) (c2 : Int32) (c3 : Int32) (h0 : Heap) (n0 : Nat) (Z0 : n0 ≤ h0.size) (O0 : Old Z n0 h0) (SC : Sta Z Z.heap "java/lang/String" "COMPACT_STRINGS" "Z" (.int wC)) (hC : (¬ wC = (0 : Int32))) (SA : Sta Z Z.heap "java/lang/StringUTF16" "$assertionsDisabled" "Z" (.int (1 : Int32))) (SH : Sta Z Z.heap "java/lang/StringUTF16" "HI_BYTE_SHIFT" "I" (.int (0 : Int32))) (SL : Sta Z Z.heap "java/lang/StringUTF16" "LO_BYTE_SHIFT" "I" (.int (8 : Int32))) (SF : Sta Z Z.heap "jdk/internal/util/Preconditions" "SIOOBE_FORMATTER" "Ljava/util/function/BiFunction;" wF) (hF : (wF.isRef = true)) (hS : own_Str Z h0 a1 vb kb [c0, c1, c2, c3]) :
    MetFree l (⟨"java/lang/String", "charAt", "(I)C"⟩ : MethodName) (head1 (Jvm.Cond.code (⟨"java/lang/String", "charAt", "(I)C"⟩ : MethodName) jdk_42_method_56_code 2 (some .char) :: ws) ({ frames := 4, cells := 0, slots := 0, locals := 53 } : Room)) (fun a U => a = #[(.ref a1), (.int (1 : Int32))] ∧ Z.Warmed39 U.vm ∧ U.heap = h0) (fun _ _ _ _ _ => True) (fun _ U o U' => ∃ v L, o = .returned v ∧ QcharAt_1_4 Z a1 wC wF vb kb c0 c1 c2 c3 h0 n0 v U'.heap L ∧ FrameEnd U o U' L ({ frames := 4, cells := 0, slots := 0, locals := 53 } : Room).cells ({ frames := 4, cells := 0, slots := 0, locals := 53 } : Room).slots) := by
  refine MetFree.of_bodySF (plainFor_of_name pn_12) hisR ?_
  intro p e s m args below meth c s₁ Bd hml0 hP hK
  obtain ⟨rfl, hZ, hh⟩ := hP
  have hx := Bd.exec
  have hby := Bd.bytes
  have hml : c.maxLocals = 2 := hml0
  have hown0 := findClass_of_methodNamed Bd.named
  have hown : s.vm.findClass "java/lang/String" = some m.cls := hown0
  have hnm := (name_of_methodNamed Bd.named Bd.method).1
  have X0 : Stand p l e ({ frames := 4, cells := 0, slots := 0, locals := 53 } : Room) s m #[(.ref a1), (.int (1 : Int32))] below meth c s₁ [] 0 0 := Stand.of_body Bd
  have e0 : s₁.heap = h0 := by rw [← hh, Bd.state]; rfl
  have N0 := Fr.nil n0
  obtain ⟨S0, hS0⟩ : ∃ z, z = s₁.setTop (entryFrame m #[(.ref a1), (.int (1 : Int32))] 2) := ⟨_, rfl⟩
  have pre0 : own_Go p e below S0 (s₁.setTop (mkF m 0 #[.val (.ref a1), .val (.int (1 : Int32))] [])) := fun t k => by rw [hS0]; exact castTop (ef_charAt_1_4 m a1) k
  have fin : ∀ t, Steps p.tables e below S0 t → Steps p.tables e below (s₁.setTop (entryFrame m #[(.ref a1), (.int (1 : Int32))] 2)) t := fun t k => by rw [hS0] at k; exact k
  obtain ⟨oE, oV, ⟨oK, oL, oA⟩ | ⟨oK, oL, oA⟩⟩ := hS
  · have oB : Arv Z h0 vb kb .byte (4 : Int32) [(.int (nar .byte (c0.toInt8.toInt32))), (.int (nar .byte (c1.toInt8.toInt32))), (.int (nar .byte (c2.toInt8.toInt32))), (.int (nar .byte (c3.toInt8.toInt32)))] (.int (0 : Int32)) := oA
    have pre1 : own_Go p e below S0 (s₁.setTop (mkF m 1 #[.val (.ref a1), .val (.int (1 : Int32))] [(.ref a1)])) := by
      intro t kt
      refine pre0 t ?_
      refine XS.aloadN X0.here hx rfl (hb hby d12_0) rfl rfl ?_
      show Steps p.tables e below (s₁.setTop (mkF m 1 #[.val (.ref a1), .val (.int (1 : Int32))] [(.ref a1)])) _
      exact kt
    obtain ⟨cq2, kq2, qa2, qb2, qc2⟩ := isOf hZ e0 oE
    obtain ⟨_, _, ⟨T2, L2, k2, n2⟩, -, X2, ⟨Lc2, hQ2, l2, y2, z2⟩, st2⟩ := X0.virtualBack hx (y := (⟨"java/lang/String", "isLatin1", "()Z"⟩ : MethodName)) (z := (⟨"java/lang/String", "isLatin1", "()Z"⟩ : MethodName)) hown (mvT hZ (hw _ (own_w 72 rfl))) (mvT hZ (hw _ (own_w 73 rfl))) (notFace_of_selects (args := #[]) (mvT hZ (hw _ (own_w 75 rfl)))) (mvT hZ (hw _ (own_w 75 rfl))) (mvT hZ (hw _ (own_w 74 rfl))) (by decide) (backOf (W := 0) (rmisLat0 l Z a0 hw [] a1 wC h0 n0 Z0 O0 SC hC oK) hZ (hw _ (own_w 76 rfl)) (hw _ (own_w 31 rfl)) (by decide) (by decide)) qa2 qc2 (g := (mkF m 1 #[.val (.ref a1), .val (.int (1 : Int32))] [(.ref a1)])) rfl (by rw [hml]; rfl) (Steps.refl _) (argsL := []) (rest := []) (lenOf pd_13 rfl) rfl (by show 2 * 0 + _ ≤ _; exact Nat.le_of_eq rfl) (hb hby d12_1) (fun _ _ => ⟨rfl, e0, (by decide : 0 + 0 ≤ _), (by decide : 0 + 0 ≤ _)⟩)
    dsimp only [Pt.U, Pt.locs, Pt.cells, Pt.slots] at X2 l2 y2 z2 st2 hQ2
    subst l2 y2 z2
    obtain ⟨rfl, Nq2, eq2⟩ := hQ2
    have N2 := Fr.app N0 Nq2
    have pre3 : own_Go p e below S0 (T2.setTop (mkF m 8 #[.val (.ref a1), .val (.int (1 : Int32))] [(.ref a1)])) := by
      intro t kt
      refine pre1 t ?_
      refine st2.trans ?_
      show Steps p.tables e below (T2.setTop (mkF m 4 #[.val (.ref a1), .val (.int (1 : Int32))] [(.int (1 : Int32))])) _
      refine XS.ifNo X2.here hx rfl (hb hby d12_4) rfl ((if0 _ _).trans (feq (by decide : ¬ ((1 : Int32) = (0 : Int32)))).1) ?_
      show Steps p.tables e below (T2.setTop (mkF m 7 #[.val (.ref a1), .val (.int (1 : Int32))] [])) _
      refine XS.aloadN X2.here hx rfl (hb hby d12_7) rfl rfl ?_
      show Steps p.tables e below (T2.setTop (mkF m 8 #[.val (.ref a1), .val (.int (1 : Int32))] [(.ref a1)])) _
      exact kt
    obtain ⟨T4, X4, e4, st4⟩ := getF X2 hx hZ hown (host := "") (Or.inl (hw _ (own_w 55 rfl))) Via.refl eq2 oV (g := (mkF m 8 #[.val (.ref a1), .val (.int (1 : Int32))] [(.ref a1)])) rfl rfl (hb hby d12_8)
    have pre5 : own_Go p e below S0 (T4.setTop (mkF m 12 #[.val (.ref a1), .val (.int (1 : Int32))] [(.int (1 : Int32)), (.ref vb)])) := by
      intro t kt
      refine pre3 t ?_
      refine st4 _ ?_
      show Steps p.tables e below (T4.setTop (mkF m 11 #[.val (.ref a1), .val (.int (1 : Int32))] [(.ref vb)])) _
      refine XS.iloadN X4.here hx rfl (hb hby d12_11) rfl ?_
      show Steps p.tables e below (T4.setTop (mkF m 12 #[.val (.ref a1), .val (.int (1 : Int32))] [(.int (1 : Int32)), (.ref vb)])) _
      exact kt
    obtain ⟨_, _, ⟨T6, L6, k6, n6⟩, -, X6, ⟨Lc6, hQ6, l6, y6, z6⟩, st6⟩ := Jvm.LawKit.callS X4 hx (y := (⟨"java/lang/StringLatin1", "charAt", "([BI)C"⟩ : MethodName)) hown (mvT hZ (hw _ (own_w 77 rfl))) (mvT hZ (hw _ (own_w 78 rfl))) (mvT hZ (hw _ (own_w 79 rfl))) (mvT hZ (hw _ (own_w 80 rfl))) (by decide) (backOf (W := 0) (rml1at l Z a0 hw [] vb (1 : Int32) wF kb (4 : Int32) [(.int (nar .byte (c0.toInt8.toInt32))), (.int (nar .byte (c1.toInt8.toInt32))), (.int (nar .byte (c2.toInt8.toInt32))), (.int (nar .byte (c3.toInt8.toInt32)))] (.int (0 : Int32)) (nar .byte (c1.toInt8.toInt32)) h0 n0 Z0 O0 SF hF oB (by decide) (by decide) rfl) hZ (hw _ (own_w 80 rfl)) (hw _ (own_w 79 rfl)) (by decide) (by decide)) (g := (mkF m 12 #[.val (.ref a1), .val (.int (1 : Int32))] [(.int (1 : Int32)), (.ref vb)])) rfl (by rw [hml]; rfl) (argsL := [(.ref vb), (.int (1 : Int32))]) (rest := []) (lenOf pd_5 rfl) rfl (by show 2 * 0 + _ ≤ _; exact Nat.le_of_eq rfl) (hb hby d12_12) (fun _ _ => ⟨rfl, e4, (by decide : 0 + 0 ≤ _), (by decide : 0 + 0 ≤ _)⟩)
    dsimp only [Pt.U, Pt.locs, Pt.cells, Pt.slots] at X6 l6 y6 z6 st6 hQ6
    subst l6 y6 z6
    obtain ⟨rfl, Nq6, eq6⟩ := hQ6
    have N6 := Fr.app N2 Nq6
    have pre7 : own_Go p e below S0 (T6.setTop (mkF m 15 #[.val (.ref a1), .val (.int (1 : Int32))] [(.int (own_lc (nar .byte (c1.toInt8.toInt32))))])) := by
      intro t kt
      refine pre5 t ?_
      refine st6 _ ?_
      show Steps p.tables e below (T6.setTop (mkF m 15 #[.val (.ref a1), .val (.int (1 : Int32))] [(.int (own_lc (nar .byte (c1.toInt8.toInt32))))])) _
      exact kt
    obtain ⟨fs, hr, hrun, hended, hW, hsame⟩ := X6.leave (v := some (.int (nar .char (own_lc (nar .byte (c1.toInt8.toInt32)))))) (fun h => by rw [Bd.returns] at h; cases h)
    refine ⟨_, _, fin _ (pre7 _ ?_), hrun, hended, _, _, rfl, ?_, ⟨_, rfl⟩, hW, hsame.mono (by decide) (by decide)⟩
    · exact retN X6 hx (t := .char) Bd.returns (by simp) (hb hby d12_15) hr
    · show QcharAt_1_4 Z a1 wC wF vb kb c0 c1 c2 c3 h0 n0 _ T6.heap _
      rw [eq6]
      exact ⟨(by show some (Value.int (nar .char _)) = _; rw [own_latget c1 oL.2.1, own_narChar c1 oL.2.1.1 (by have q := oL.2.1; omega)]), N6, rfl⟩
  · have oB : Arv Z h0 vb kb .byte (8 : Int32) [(.int (nar .byte ((c0 >>> ((0 : Int32) &&& 31)).toInt8.toInt32))), (.int (nar .byte ((c0 >>> ((8 : Int32) &&& 31)).toInt8.toInt32))), (.int (nar .byte ((c1 >>> ((0 : Int32) &&& 31)).toInt8.toInt32))), (.int (nar .byte ((c1 >>> ((8 : Int32) &&& 31)).toInt8.toInt32))), (.int (nar .byte ((c2 >>> ((0 : Int32) &&& 31)).toInt8.toInt32))), (.int (nar .byte ((c2 >>> ((8 : Int32) &&& 31)).toInt8.toInt32))), (.int (nar .byte ((c3 >>> ((0 : Int32) &&& 31)).toInt8.toInt32))), (.int (nar .byte ((c3 >>> ((8 : Int32) &&& 31)).toInt8.toInt32)))] (.int (0 : Int32)) := oA
    have pre8 : own_Go p e below S0 (s₁.setTop (mkF m 1 #[.val (.ref a1), .val (.int (1 : Int32))] [(.ref a1)])) := by
      intro t kt
      refine pre0 t ?_
      refine XS.aloadN X0.here hx rfl (hb hby d12_0) rfl rfl ?_
      show Steps p.tables e below (s₁.setTop (mkF m 1 #[.val (.ref a1), .val (.int (1 : Int32))] [(.ref a1)])) _
      exact kt
    obtain ⟨cq9, kq9, qa9, qb9, qc9⟩ := isOf hZ e0 oE
    obtain ⟨_, _, ⟨T9, L9, k9, n9⟩, -, X9, ⟨Lc9, hQ9, l9, y9, z9⟩, st9⟩ := X0.virtualBack hx (y := (⟨"java/lang/String", "isLatin1", "()Z"⟩ : MethodName)) (z := (⟨"java/lang/String", "isLatin1", "()Z"⟩ : MethodName)) hown (mvT hZ (hw _ (own_w 72 rfl))) (mvT hZ (hw _ (own_w 73 rfl))) (notFace_of_selects (args := #[]) (mvT hZ (hw _ (own_w 75 rfl)))) (mvT hZ (hw _ (own_w 75 rfl))) (mvT hZ (hw _ (own_w 74 rfl))) (by decide) (backOf (W := 0) (rmisLat1 l Z a0 hw [] a1 wC h0 n0 Z0 O0 SC hC oK) hZ (hw _ (own_w 76 rfl)) (hw _ (own_w 31 rfl)) (by decide) (by decide)) qa9 qc9 (g := (mkF m 1 #[.val (.ref a1), .val (.int (1 : Int32))] [(.ref a1)])) rfl (by rw [hml]; rfl) (Steps.refl _) (argsL := []) (rest := []) (lenOf pd_13 rfl) rfl (by show 2 * 0 + _ ≤ _; exact Nat.le_of_eq rfl) (hb hby d12_1) (fun _ _ => ⟨rfl, e0, (by decide : 0 + 0 ≤ _), (by decide : 0 + 0 ≤ _)⟩)
    dsimp only [Pt.U, Pt.locs, Pt.cells, Pt.slots] at X9 l9 y9 z9 st9 hQ9
    subst l9 y9 z9
    obtain ⟨rfl, Nq9, eq9⟩ := hQ9
    have N9 := Fr.app N0 Nq9
    have pre10 : own_Go p e below S0 (T9.setTop (mkF m 17 #[.val (.ref a1), .val (.int (1 : Int32))] [(.ref a1)])) := by
      intro t kt
      refine pre8 t ?_
      refine st9.trans ?_
      show Steps p.tables e below (T9.setTop (mkF m 4 #[.val (.ref a1), .val (.int (1 : Int32))] [(.int (0 : Int32))])) _
      refine XS.ifYes X9.here hx rfl (pc0 := 4) (pc' := 16) rfl (hb hby d12_4) rfl ((if0 _ _).trans (teq (by decide : (0 : Int32) = (0 : Int32))).1) (by decide) (by decide) ?_
      show Steps p.tables e below (T9.setTop (mkF m 16 #[.val (.ref a1), .val (.int (1 : Int32))] [])) _
      refine XS.aloadN X9.here hx rfl (hb hby d12_16) rfl rfl ?_
      show Steps p.tables e below (T9.setTop (mkF m 17 #[.val (.ref a1), .val (.int (1 : Int32))] [(.ref a1)])) _
      exact kt
    obtain ⟨T11, X11, e11, st11⟩ := getF X9 hx hZ hown (host := "") (Or.inl (hw _ (own_w 55 rfl))) Via.refl eq9 oV (g := (mkF m 17 #[.val (.ref a1), .val (.int (1 : Int32))] [(.ref a1)])) rfl rfl (hb hby d12_17)
    have pre12 : own_Go p e below S0 (T11.setTop (mkF m 21 #[.val (.ref a1), .val (.int (1 : Int32))] [(.int (1 : Int32)), (.ref vb)])) := by
      intro t kt
      refine pre10 t ?_
      refine st11 _ ?_
      show Steps p.tables e below (T11.setTop (mkF m 20 #[.val (.ref a1), .val (.int (1 : Int32))] [(.ref vb)])) _
      refine XS.iloadN X11.here hx rfl (hb hby d12_20) rfl ?_
      show Steps p.tables e below (T11.setTop (mkF m 21 #[.val (.ref a1), .val (.int (1 : Int32))] [(.int (1 : Int32)), (.ref vb)])) _
      exact kt
    obtain ⟨_, _, ⟨T13, L13, k13, n13⟩, -, X13, ⟨Lc13, hQ13, l13, y13, z13⟩, st13⟩ := Jvm.LawKit.callS X11 hx (y := (⟨"java/lang/StringUTF16", "charAt", "([BI)C"⟩ : MethodName)) hown (mvT hZ (hw _ (own_w 108 rfl))) (mvT hZ (hw _ (own_w 109 rfl))) (mvT hZ (hw _ (own_w 44 rfl))) (mvT hZ (hw _ (own_w 110 rfl))) (by decide) (backOf (W := 0) (rmu16at_1_8 l Z a0 hw [] vb wF kb (nar .byte ((c1 >>> ((0 : Int32) &&& 31)).toInt8.toInt32)) (nar .byte ((c1 >>> ((8 : Int32) &&& 31)).toInt8.toInt32)) (.int (nar .byte ((c0 >>> ((0 : Int32) &&& 31)).toInt8.toInt32))) (.int (nar .byte ((c0 >>> ((8 : Int32) &&& 31)).toInt8.toInt32))) (.int (nar .byte ((c2 >>> ((0 : Int32) &&& 31)).toInt8.toInt32))) (.int (nar .byte ((c2 >>> ((8 : Int32) &&& 31)).toInt8.toInt32))) (.int (nar .byte ((c3 >>> ((0 : Int32) &&& 31)).toInt8.toInt32))) (.int (nar .byte ((c3 >>> ((8 : Int32) &&& 31)).toInt8.toInt32))) h0 n0 Z0 O0 SA SH SL SF hF oB) hZ (hw _ (own_w 110 rfl)) (hw _ (own_w 44 rfl)) (by decide) (by decide)) (g := (mkF m 21 #[.val (.ref a1), .val (.int (1 : Int32))] [(.int (1 : Int32)), (.ref vb)])) rfl (by rw [hml]; rfl) (argsL := [(.ref vb), (.int (1 : Int32))]) (rest := []) (lenOf pd_5 rfl) rfl (by show 2 * 0 + _ ≤ _; exact Nat.le_of_eq rfl) (hb hby d12_21) (fun _ _ => ⟨rfl, e11, (by decide : 0 + 0 ≤ _), (by decide : 0 + 0 ≤ _)⟩)
    dsimp only [Pt.U, Pt.locs, Pt.cells, Pt.slots] at X13 l13 y13 z13 st13 hQ13
    subst l13 y13 z13
    obtain ⟨rfl, Nq13, eq13⟩ := hQ13
    have N13 := Fr.app N9 Nq13
    have pre14 : own_Go p e below S0 (T13.setTop (mkF m 24 #[.val (.ref a1), .val (.int (1 : Int32))] [(.int (own_gc (nar .byte ((c1 >>> ((0 : Int32) &&& 31)).toInt8.toInt32)) (nar .byte ((c1 >>> ((8 : Int32) &&& 31)).toInt8.toInt32))))])) := by
      intro t kt
      refine pre12 t ?_
      refine st13 _ ?_
      show Steps p.tables e below (T13.setTop (mkF m 24 #[.val (.ref a1), .val (.int (1 : Int32))] [(.int (own_gc (nar .byte ((c1 >>> ((0 : Int32) &&& 31)).toInt8.toInt32)) (nar .byte ((c1 >>> ((8 : Int32) &&& 31)).toInt8.toInt32))))])) _
      exact kt
    obtain ⟨fs, hr, hrun, hended, hW, hsame⟩ := X13.leave (v := some (.int (nar .char (own_gc (nar .byte ((c1 >>> ((0 : Int32) &&& 31)).toInt8.toInt32)) (nar .byte ((c1 >>> ((8 : Int32) &&& 31)).toInt8.toInt32)))))) (fun h => by rw [Bd.returns] at h; cases h)
    refine ⟨_, _, fin _ (pre14 _ ?_), hrun, hended, _, _, rfl, ?_, ⟨_, rfl⟩, hW, hsame.mono (by decide) (by decide)⟩
    · exact retN X13 hx (t := .char) Bd.returns (by simp) (hb hby d12_24) hr
    · show QcharAt_1_4 Z a1 wC wF vb kb c0 c1 c2 c3 h0 n0 _ T13.heap _
      rw [eq13]
      exact ⟨(by show some (Value.int (nar .char _)) = _; rw [own_utfget c1 oL.2.1, own_narChar c1 oL.2.1.1 (by have q := oL.2.1; omega)]), N13, rfl⟩

theorem ef_u16ck_2_8 (m : MethodId) (x1 : Addr) : entryFrame m #[(.int (2 : Int32)), (.ref x1)] 2 = mkF m 0 #[.val (.int (2 : Int32)), .val (.ref x1)] [] := by first | (simp [entryFrame, mkF, argsToLocals, Value.category]; done) | rfl
def Qu16ck_2_8 (Z : State) (a2 : Addr) (wF : Value) (k1 : ClassId) (vs : List Value) (d1 : Value) (h0 : Heap) (n0 : Nat) (v : Option Value) (h : Heap) (L : List Loc) : Prop := v = none ∧ Fr n0 L ∧ h = h0
set_option maxRecDepth 65536 in
set_option maxHeartbeats 40000000 in
theorem rmu16ck_2_8 (l : Launch) (Z : State) (a0 : Array Value) (hw : ∀ d ∈ tables_1, d.before a0 Z = true) (ws : List Jvm.Cond) (a2 : Addr) (wF : Value) (k1 : ClassId) (vs : List Value) (d1 : Value) (h0 : Heap) (n0 : Nat) (Z0 : n0 ≤ h0.size) (O0 : Old Z n0 h0) (SF : Sta Z Z.heap "jdk/internal/util/Preconditions" "SIOOBE_FORMATTER" "Ljava/util/function/BiFunction;" wF) (hF : (wF.isRef = true)) (V1 : Arv Z h0 a2 k1 .byte (8 : Int32) vs d1) :
    MetFree l (⟨"java/lang/StringUTF16", "checkIndex", "(I[B)V"⟩ : MethodName) (head1 (Jvm.Cond.code (⟨"java/lang/StringUTF16", "checkIndex", "(I[B)V"⟩ : MethodName) jdk_52_method_91_code 2 none :: ws) ({ frames := 2, cells := 0, slots := 0, locals := 27 } : Room)) (fun a U => a = #[(.int (2 : Int32)), (.ref a2)] ∧ Z.Warmed39 U.vm ∧ U.heap = h0) (fun _ _ _ _ _ => True) (fun _ U o U' => ∃ v L, o = .returned v ∧ Qu16ck_2_8 Z a2 wF k1 vs d1 h0 n0 v U'.heap L ∧ FrameEnd U o U' L ({ frames := 2, cells := 0, slots := 0, locals := 27 } : Room).cells ({ frames := 2, cells := 0, slots := 0, locals := 27 } : Room).slots) := by
  refine MetFree.of_bodySF (plainFor_of_name pn_23) hisR ?_
  intro p e s m args below meth c s₁ Bd hml0 hP hK
  obtain ⟨rfl, hZ, hh⟩ := hP
  have hx := Bd.exec
  have hby := Bd.bytes
  have hml : c.maxLocals = 2 := hml0
  have hown0 := findClass_of_methodNamed Bd.named
  have hown : s.vm.findClass "java/lang/StringUTF16" = some m.cls := hown0
  have hnm := (name_of_methodNamed Bd.named Bd.method).1
  have X0 : Stand p l e ({ frames := 2, cells := 0, slots := 0, locals := 27 } : Room) s m #[(.int (2 : Int32)), (.ref a2)] below meth c s₁ [] 0 0 := Stand.of_body Bd
  have e0 : s₁.heap = h0 := by rw [← hh, Bd.state]; rfl
  have N0 := Fr.nil n0
  obtain ⟨S0, hS0⟩ : ∃ z, z = s₁.setTop (entryFrame m #[(.int (2 : Int32)), (.ref a2)] 2) := ⟨_, rfl⟩
  have pre0 : own_Go p e below S0 (s₁.setTop (mkF m 0 #[.val (.int (2 : Int32)), .val (.ref a2)] [])) := fun t k => by rw [hS0]; exact castTop (ef_u16ck_2_8 m a2) k
  have fin : ∀ t, Steps p.tables e below S0 t → Steps p.tables e below (s₁.setTop (entryFrame m #[(.int (2 : Int32)), (.ref a2)] 2)) t := fun t k => by rw [hS0] at k; exact k
  have pre1 : own_Go p e below S0 (s₁.setTop (mkF m 2 #[.val (.int (2 : Int32)), .val (.ref a2)] [(.ref a2), (.int (2 : Int32))])) := by
    intro t kt
    refine pre0 t ?_
    refine XS.iloadN X0.here hx rfl (hb hby d23_0) rfl ?_
    show Steps p.tables e below (s₁.setTop (mkF m 1 #[.val (.int (2 : Int32)), .val (.ref a2)] [(.int (2 : Int32))])) _
    refine XS.aloadN X0.here hx rfl (hb hby d23_1) rfl rfl ?_
    show Steps p.tables e below (s₁.setTop (mkF m 2 #[.val (.int (2 : Int32)), .val (.ref a2)] [(.ref a2), (.int (2 : Int32))])) _
    exact kt
  obtain ⟨_, _, ⟨T2, L2, k2, n2⟩, -, X2, ⟨Lc2, hQ2, l2, y2, z2⟩, st2⟩ := Jvm.LawKit.callS X0 hx (y := (⟨"java/lang/StringUTF16", "length", "([B)I"⟩ : MethodName)) hown (mvT hZ (hw _ (own_w 114 rfl))) (mvT hZ (hw _ (own_w 115 rfl))) (mvT hZ (hw _ (own_w 44 rfl))) (mvT hZ (hw _ (own_w 116 rfl))) (by decide) (backOf (W := 1) (rmu16len_8 l Z a0 hw [] a2 k1 vs d1 h0 n0 Z0 V1) hZ (hw _ (own_w 116 rfl)) (hw _ (own_w 44 rfl)) (by decide) (by decide)) (g := (mkF m 2 #[.val (.int (2 : Int32)), .val (.ref a2)] [(.ref a2), (.int (2 : Int32))])) rfl (by rw [hml]; rfl) (argsL := [(.ref a2)]) (rest := [(.int (2 : Int32))]) (lenOf pd_11 rfl) rfl (by show 2 * 0 + _ ≤ _; exact Nat.le_of_eq rfl) (hb hby d23_2) (fun _ _ => ⟨rfl, e0, (by decide : 0 + 0 ≤ _), (by decide : 0 + 0 ≤ _)⟩)
  dsimp only [Pt.U, Pt.locs, Pt.cells, Pt.slots] at X2 l2 y2 z2 st2 hQ2
  subst l2 y2 z2
  obtain ⟨rfl, Nq2, eq2⟩ := hQ2
  have N2 := Fr.app N0 Nq2
  have pre3 : own_Go p e below S0 (T2.setTop (mkF m 5 #[.val (.int (2 : Int32)), .val (.ref a2)] [(.int (4 : Int32)), (.int (2 : Int32))])) := by
    intro t kt
    refine pre1 t ?_
    refine st2 _ ?_
    show Steps p.tables e below (T2.setTop (mkF m 5 #[.val (.int (2 : Int32)), .val (.ref a2)] [(.int (4 : Int32)), (.int (2 : Int32))])) _
    exact kt
  obtain ⟨_, _, ⟨T4, L4, k4, n4⟩, -, X4, ⟨Lc4, hQ4, l4, y4, z4⟩, st4⟩ := Jvm.LawKit.callS X2 hx (y := (⟨"java/lang/String", "checkIndex", "(II)V"⟩ : MethodName)) hown (mvT hZ (hw _ (own_w 117 rfl))) (mvT hZ (hw _ (own_w 82 rfl))) (mvT hZ (hw _ (own_w 31 rfl))) (mvT hZ (hw _ (own_w 83 rfl))) (by decide) (backOf (W := 0) (rmsck l Z a0 hw [] (2 : Int32) (4 : Int32) wF h0 n0 Z0 O0 SF hF (by decide) (by decide)) hZ (hw _ (own_w 83 rfl)) (hw _ (own_w 31 rfl)) (by decide) (by decide)) (g := (mkF m 5 #[.val (.int (2 : Int32)), .val (.ref a2)] [(.int (4 : Int32)), (.int (2 : Int32))])) rfl (by rw [hml]; rfl) (argsL := [(.int (2 : Int32)), (.int (4 : Int32))]) (rest := []) (lenOf pd_10 rfl) rfl (by show 2 * 0 + _ ≤ _; exact Nat.le_of_eq rfl) (hb hby d23_5) (fun _ _ => ⟨rfl, eq2, (by decide : 0 + 0 ≤ _), (by decide : 0 + 0 ≤ _)⟩)
  dsimp only [Pt.U, Pt.locs, Pt.cells, Pt.slots] at X4 l4 y4 z4 st4 hQ4
  subst l4 y4 z4
  obtain ⟨rfl, Nq4, eq4⟩ := hQ4
  have N4 := Fr.app N2 Nq4
  have pre5 : own_Go p e below S0 (T4.setTop (mkF m 8 #[.val (.int (2 : Int32)), .val (.ref a2)] [])) := by
    intro t kt
    refine pre3 t ?_
    refine st4 _ ?_
    show Steps p.tables e below (T4.setTop (mkF m 8 #[.val (.int (2 : Int32)), .val (.ref a2)] [])) _
    exact kt
  obtain ⟨fs, hr, hrun, hended, hW, hsame⟩ := X4.leave (v := none) (fun _ => rfl)
  refine ⟨_, _, fin _ (pre5 _ ?_), hrun, hended, _, _, rfl, ?_, ⟨_, rfl⟩, hW, hsame.mono (by decide) (by decide)⟩
  · exact X4.returnOut hx Bd.returns (hb hby d23_8) hr
  · show Qu16ck_2_8 Z a2 wF k1 vs d1 h0 n0 _ T4.heap _
    rw [eq4]
    exact ⟨rfl, N4, rfl⟩

theorem ef_u16at_2_8 (m : MethodId) (x0 : Addr) : entryFrame m #[(.ref x0), (.int (2 : Int32))] 2 = mkF m 0 #[.val (.ref x0), .val (.int (2 : Int32))] [] := by first | (simp [entryFrame, mkF, argsToLocals, Value.category]; done) | rfl
def Qu16at_2_8 (Z : State) (a1 : Addr) (wF : Value) (k1 : ClassId) (b0 : Int32) (b1 : Int32) (u0 : Value) (u1 : Value) (u2 : Value) (u3 : Value) (u6 : Value) (u7 : Value) (h0 : Heap) (n0 : Nat) (v : Option Value) (h : Heap) (L : List Loc) : Prop := v = (some (.int (own_gc b0 b1))) ∧ Fr n0 L ∧ h = h0
set_option maxRecDepth 65536 in
set_option maxHeartbeats 40000000 in
theorem rmu16at_2_8 (l : Launch) (Z : State) (a0 : Array Value) (hw : ∀ d ∈ tables_1, d.before a0 Z = true) (ws : List Jvm.Cond) (a1 : Addr) (wF : Value) (k1 : ClassId) (b0 : Int32) (b1 : Int32) (u0 : Value) (u1 : Value) (u2 : Value) (u3 : Value) (u6 : Value) (u7 : Value) (h0 : Heap) (n0 : Nat) (Z0 : n0 ≤ h0.size) (O0 : Old Z n0 h0) (SA : Sta Z Z.heap "java/lang/StringUTF16" "$assertionsDisabled" "Z" (.int (1 : Int32))) (SH : Sta Z Z.heap "java/lang/StringUTF16" "HI_BYTE_SHIFT" "I" (.int (0 : Int32))) (SL : Sta Z Z.heap "java/lang/StringUTF16" "LO_BYTE_SHIFT" "I" (.int (8 : Int32))) (SF : Sta Z Z.heap "jdk/internal/util/Preconditions" "SIOOBE_FORMATTER" "Ljava/util/function/BiFunction;" wF) (hF : (wF.isRef = true)) (V1 : Arv Z h0 a1 k1 .byte (8 : Int32) [u0, u1, u2, u3, (.int b0), (.int b1), u6, u7] (.int (0 : Int32))) :
    MetFree l (⟨"java/lang/StringUTF16", "charAt", "([BI)C"⟩ : MethodName) (head1 (Jvm.Cond.code (⟨"java/lang/StringUTF16", "charAt", "([BI)C"⟩ : MethodName) jdk_52_method_83_code 2 (some .char) :: ws) ({ frames := 3, cells := 0, slots := 0, locals := 40 } : Room)) (fun a U => a = #[(.ref a1), (.int (2 : Int32))] ∧ Z.Warmed39 U.vm ∧ U.heap = h0) (fun _ _ _ _ _ => True) (fun _ U o U' => ∃ v L, o = .returned v ∧ Qu16at_2_8 Z a1 wF k1 b0 b1 u0 u1 u2 u3 u6 u7 h0 n0 v U'.heap L ∧ FrameEnd U o U' L ({ frames := 3, cells := 0, slots := 0, locals := 40 } : Room).cells ({ frames := 3, cells := 0, slots := 0, locals := 40 } : Room).slots) := by
  refine MetFree.of_bodySF (plainFor_of_name pn_22) hisR ?_
  intro p e s m args below meth c s₁ Bd hml0 hP hK
  obtain ⟨rfl, hZ, hh⟩ := hP
  have hx := Bd.exec
  have hby := Bd.bytes
  have hml : c.maxLocals = 2 := hml0
  have hown0 := findClass_of_methodNamed Bd.named
  have hown : s.vm.findClass "java/lang/StringUTF16" = some m.cls := hown0
  have hnm := (name_of_methodNamed Bd.named Bd.method).1
  have X0 : Stand p l e ({ frames := 3, cells := 0, slots := 0, locals := 40 } : Room) s m #[(.ref a1), (.int (2 : Int32))] below meth c s₁ [] 0 0 := Stand.of_body Bd
  have e0 : s₁.heap = h0 := by rw [← hh, Bd.state]; rfl
  have N0 := Fr.nil n0
  obtain ⟨S0, hS0⟩ : ∃ z, z = s₁.setTop (entryFrame m #[(.ref a1), (.int (2 : Int32))] 2) := ⟨_, rfl⟩
  have pre0 : own_Go p e below S0 (s₁.setTop (mkF m 0 #[.val (.ref a1), .val (.int (2 : Int32))] [])) := fun t k => by rw [hS0]; exact castTop (ef_u16at_2_8 m a1) k
  have fin : ∀ t, Steps p.tables e below S0 t → Steps p.tables e below (s₁.setTop (entryFrame m #[(.ref a1), (.int (2 : Int32))] 2)) t := fun t k => by rw [hS0] at k; exact k
  have pre1 : own_Go p e below S0 (s₁.setTop (mkF m 2 #[.val (.ref a1), .val (.int (2 : Int32))] [(.ref a1), (.int (2 : Int32))])) := by
    intro t kt
    refine pre0 t ?_
    refine XS.iloadN X0.here hx rfl (hb hby d22_0) rfl ?_
    show Steps p.tables e below (s₁.setTop (mkF m 1 #[.val (.ref a1), .val (.int (2 : Int32))] [(.int (2 : Int32))])) _
    refine XS.aloadN X0.here hx rfl (hb hby d22_1) rfl rfl ?_
    show Steps p.tables e below (s₁.setTop (mkF m 2 #[.val (.ref a1), .val (.int (2 : Int32))] [(.ref a1), (.int (2 : Int32))])) _
    exact kt
  obtain ⟨_, _, ⟨T2, L2, k2, n2⟩, -, X2, ⟨Lc2, hQ2, l2, y2, z2⟩, st2⟩ := Jvm.LawKit.callS X0 hx (y := (⟨"java/lang/StringUTF16", "checkIndex", "(I[B)V"⟩ : MethodName)) hown (mvT hZ (hw _ (own_w 111 rfl))) (mvT hZ (hw _ (own_w 112 rfl))) (mvT hZ (hw _ (own_w 44 rfl))) (mvT hZ (hw _ (own_w 113 rfl))) (by decide) (backOf (W := 0) (rmu16ck_2_8 l Z a0 hw [] a1 wF k1 [u0, u1, u2, u3, (.int b0), (.int b1), u6, u7] (.int (0 : Int32)) h0 n0 Z0 O0 SF hF V1) hZ (hw _ (own_w 113 rfl)) (hw _ (own_w 44 rfl)) (by decide) (by decide)) (g := (mkF m 2 #[.val (.ref a1), .val (.int (2 : Int32))] [(.ref a1), (.int (2 : Int32))])) rfl (by rw [hml]; rfl) (argsL := [(.int (2 : Int32)), (.ref a1)]) (rest := []) (lenOf pd_12 rfl) rfl (by show 2 * 0 + _ ≤ _; exact Nat.le_of_eq rfl) (hb hby d22_2) (fun _ _ => ⟨rfl, e0, (by decide : 0 + 0 ≤ _), (by decide : 0 + 0 ≤ _)⟩)
  dsimp only [Pt.U, Pt.locs, Pt.cells, Pt.slots] at X2 l2 y2 z2 st2 hQ2
  subst l2 y2 z2
  obtain ⟨rfl, Nq2, eq2⟩ := hQ2
  have N2 := Fr.app N0 Nq2
  have pre3 : own_Go p e below S0 (T2.setTop (mkF m 7 #[.val (.ref a1), .val (.int (2 : Int32))] [(.int (2 : Int32)), (.ref a1)])) := by
    intro t kt
    refine pre1 t ?_
    refine st2 _ ?_
    show Steps p.tables e below (T2.setTop (mkF m 5 #[.val (.ref a1), .val (.int (2 : Int32))] [])) _
    refine XS.aloadN X2.here hx rfl (hb hby d22_5) rfl rfl ?_
    show Steps p.tables e below (T2.setTop (mkF m 6 #[.val (.ref a1), .val (.int (2 : Int32))] [(.ref a1)])) _
    refine XS.iloadN X2.here hx rfl (hb hby d22_6) rfl ?_
    show Steps p.tables e below (T2.setTop (mkF m 7 #[.val (.ref a1), .val (.int (2 : Int32))] [(.int (2 : Int32)), (.ref a1)])) _
    exact kt
  obtain ⟨_, _, ⟨T4, L4, k4, n4⟩, -, X4, ⟨Lc4, hQ4, l4, y4, z4⟩, st4⟩ := Jvm.LawKit.callS X2 hx (y := (⟨"java/lang/StringUTF16", "getChar", "([BI)C"⟩ : MethodName)) hown (mvT hZ (hw _ (own_w 105 rfl))) (mvT hZ (hw _ (own_w 106 rfl))) (mvT hZ (hw _ (own_w 44 rfl))) (mvT hZ (hw _ (own_w 107 rfl))) (by decide) (backOf (W := 0) (rmgetc_2_8 l Z a0 hw [] a1 k1 b0 b1 u0 u1 u2 u3 u6 u7 h0 n0 Z0 O0 SA SH SL V1) hZ (hw _ (own_w 107 rfl)) (hw _ (own_w 44 rfl)) (by decide) (by decide)) (g := (mkF m 7 #[.val (.ref a1), .val (.int (2 : Int32))] [(.int (2 : Int32)), (.ref a1)])) rfl (by rw [hml]; rfl) (argsL := [(.ref a1), (.int (2 : Int32))]) (rest := []) (lenOf pd_5 rfl) rfl (by show 2 * 0 + _ ≤ _; exact Nat.le_of_eq rfl) (hb hby d22_7) (fun _ _ => ⟨rfl, eq2, (by decide : 0 + 0 ≤ _), (by decide : 0 + 0 ≤ _)⟩)
  dsimp only [Pt.U, Pt.locs, Pt.cells, Pt.slots] at X4 l4 y4 z4 st4 hQ4
  subst l4 y4 z4
  obtain ⟨rfl, Nq4, eq4⟩ := hQ4
  have N4 := Fr.app N2 Nq4
  have pre5 : own_Go p e below S0 (T4.setTop (mkF m 10 #[.val (.ref a1), .val (.int (2 : Int32))] [(.int (own_gc b0 b1))])) := by
    intro t kt
    refine pre3 t ?_
    refine st4 _ ?_
    show Steps p.tables e below (T4.setTop (mkF m 10 #[.val (.ref a1), .val (.int (2 : Int32))] [(.int (own_gc b0 b1))])) _
    exact kt
  obtain ⟨fs, hr, hrun, hended, hW, hsame⟩ := X4.leave (v := some (.int (nar .char (own_gc b0 b1)))) (fun h => by rw [Bd.returns] at h; cases h)
  refine ⟨_, _, fin _ (pre5 _ ?_), hrun, hended, _, _, rfl, ?_, ⟨_, rfl⟩, hW, hsame.mono (by decide) (by decide)⟩
  · exact retN X4 hx (t := .char) Bd.returns (by simp) (hb hby d22_10) hr
  · show Qu16at_2_8 Z a1 wF k1 b0 b1 u0 u1 u2 u3 u6 u7 h0 n0 _ T4.heap _
    rw [eq4]
    exact ⟨(congrArg (fun q => some (Value.int q)) (own_narChar2 _ _)), N4, rfl⟩

theorem ef_charAt_2_4 (m : MethodId) (x0 : Addr) : entryFrame m #[(.ref x0), (.int (2 : Int32))] 2 = mkF m 0 #[.val (.ref x0), .val (.int (2 : Int32))] [] := by first | (simp [entryFrame, mkF, argsToLocals, Value.category]; done) | rfl
def QcharAt_2_4 (Z : State) (a1 : Addr) (wC : Int32) (wF : Value) (vb : Addr) (kb : ClassId) (c0 : Int32) (c1 : Int32) (c2 : Int32) (c3 : Int32) (h0 : Heap) (n0 : Nat) (v : Option Value) (h : Heap) (L : List Loc) : Prop := v = (some (.int c2)) ∧ Fr n0 L ∧ h = h0
set_option maxRecDepth 65536 in
set_option maxHeartbeats 40000000 in
theorem rmcharAt_2_4 (l : Launch) (Z : State) (a0 : Array Value) (hw : ∀ d ∈ tables_1, d.before a0 Z = true) (ws : List Jvm.Cond) (a1 : Addr) (wC : Int32) (wF : Value) (vb : Addr) (kb : ClassId) (c0 : Int32) (c1 : Int32) (c2 : Int32) (c3 : Int32) (h0 : Heap) (n0 : Nat) (Z0 : n0 ≤ h0.size) (O0 : Old Z n0 h0) (SC : Sta Z Z.heap "java/lang/String" "COMPACT_STRINGS" "Z" (.int wC)) (hC : (¬ wC = (0 : Int32))) (SA : Sta Z Z.heap "java/lang/StringUTF16" "$assertionsDisabled" "Z" (.int (1 : Int32))) (SH : Sta Z Z.heap "java/lang/StringUTF16" "HI_BYTE_SHIFT" "I" (.int (0 : Int32))) (SL : Sta Z Z.heap "java/lang/StringUTF16" "LO_BYTE_SHIFT" "I" (.int (8 : Int32))) (SF : Sta Z Z.heap "jdk/internal/util/Preconditions" "SIOOBE_FORMATTER" "Ljava/util/function/BiFunction;" wF) (hF : (wF.isRef = true)) (hS : own_Str Z h0 a1 vb kb [c0, c1, c2, c3]) :
    MetFree l (⟨"java/lang/String", "charAt", "(I)C"⟩ : MethodName) (head1 (Jvm.Cond.code (⟨"java/lang/String", "charAt", "(I)C"⟩ : MethodName) jdk_42_method_56_code 2 (some .char) :: ws) ({ frames := 4, cells := 0, slots := 0, locals := 53 } : Room)) (fun a U => a = #[(.ref a1), (.int (2 : Int32))] ∧ Z.Warmed39 U.vm ∧ U.heap = h0) (fun _ _ _ _ _ => True) (fun _ U o U' => ∃ v L, o = .returned v ∧ QcharAt_2_4 Z a1 wC wF vb kb c0 c1 c2 c3 h0 n0 v U'.heap L ∧ FrameEnd U o U' L ({ frames := 4, cells := 0, slots := 0, locals := 53 } : Room).cells ({ frames := 4, cells := 0, slots := 0, locals := 53 } : Room).slots) := by
  refine MetFree.of_bodySF (plainFor_of_name pn_12) hisR ?_
  intro p e s m args below meth c s₁ Bd hml0 hP hK
  obtain ⟨rfl, hZ, hh⟩ := hP
  have hx := Bd.exec
  have hby := Bd.bytes
  have hml : c.maxLocals = 2 := hml0
  have hown0 := findClass_of_methodNamed Bd.named
  have hown : s.vm.findClass "java/lang/String" = some m.cls := hown0
  have hnm := (name_of_methodNamed Bd.named Bd.method).1
  have X0 : Stand p l e ({ frames := 4, cells := 0, slots := 0, locals := 53 } : Room) s m #[(.ref a1), (.int (2 : Int32))] below meth c s₁ [] 0 0 := Stand.of_body Bd
  have e0 : s₁.heap = h0 := by rw [← hh, Bd.state]; rfl
  have N0 := Fr.nil n0
  obtain ⟨S0, hS0⟩ : ∃ z, z = s₁.setTop (entryFrame m #[(.ref a1), (.int (2 : Int32))] 2) := ⟨_, rfl⟩
  have pre0 : own_Go p e below S0 (s₁.setTop (mkF m 0 #[.val (.ref a1), .val (.int (2 : Int32))] [])) := fun t k => by rw [hS0]; exact castTop (ef_charAt_2_4 m a1) k
  have fin : ∀ t, Steps p.tables e below S0 t → Steps p.tables e below (s₁.setTop (entryFrame m #[(.ref a1), (.int (2 : Int32))] 2)) t := fun t k => by rw [hS0] at k; exact k
  obtain ⟨oE, oV, ⟨oK, oL, oA⟩ | ⟨oK, oL, oA⟩⟩ := hS
  · have oB : Arv Z h0 vb kb .byte (4 : Int32) [(.int (nar .byte (c0.toInt8.toInt32))), (.int (nar .byte (c1.toInt8.toInt32))), (.int (nar .byte (c2.toInt8.toInt32))), (.int (nar .byte (c3.toInt8.toInt32)))] (.int (0 : Int32)) := oA
    have pre1 : own_Go p e below S0 (s₁.setTop (mkF m 1 #[.val (.ref a1), .val (.int (2 : Int32))] [(.ref a1)])) := by
      intro t kt
      refine pre0 t ?_
      refine XS.aloadN X0.here hx rfl (hb hby d12_0) rfl rfl ?_
      show Steps p.tables e below (s₁.setTop (mkF m 1 #[.val (.ref a1), .val (.int (2 : Int32))] [(.ref a1)])) _
      exact kt
    obtain ⟨cq2, kq2, qa2, qb2, qc2⟩ := isOf hZ e0 oE
    obtain ⟨_, _, ⟨T2, L2, k2, n2⟩, -, X2, ⟨Lc2, hQ2, l2, y2, z2⟩, st2⟩ := X0.virtualBack hx (y := (⟨"java/lang/String", "isLatin1", "()Z"⟩ : MethodName)) (z := (⟨"java/lang/String", "isLatin1", "()Z"⟩ : MethodName)) hown (mvT hZ (hw _ (own_w 72 rfl))) (mvT hZ (hw _ (own_w 73 rfl))) (notFace_of_selects (args := #[]) (mvT hZ (hw _ (own_w 75 rfl)))) (mvT hZ (hw _ (own_w 75 rfl))) (mvT hZ (hw _ (own_w 74 rfl))) (by decide) (backOf (W := 0) (rmisLat0 l Z a0 hw [] a1 wC h0 n0 Z0 O0 SC hC oK) hZ (hw _ (own_w 76 rfl)) (hw _ (own_w 31 rfl)) (by decide) (by decide)) qa2 qc2 (g := (mkF m 1 #[.val (.ref a1), .val (.int (2 : Int32))] [(.ref a1)])) rfl (by rw [hml]; rfl) (Steps.refl _) (argsL := []) (rest := []) (lenOf pd_13 rfl) rfl (by show 2 * 0 + _ ≤ _; exact Nat.le_of_eq rfl) (hb hby d12_1) (fun _ _ => ⟨rfl, e0, (by decide : 0 + 0 ≤ _), (by decide : 0 + 0 ≤ _)⟩)
    dsimp only [Pt.U, Pt.locs, Pt.cells, Pt.slots] at X2 l2 y2 z2 st2 hQ2
    subst l2 y2 z2
    obtain ⟨rfl, Nq2, eq2⟩ := hQ2
    have N2 := Fr.app N0 Nq2
    have pre3 : own_Go p e below S0 (T2.setTop (mkF m 8 #[.val (.ref a1), .val (.int (2 : Int32))] [(.ref a1)])) := by
      intro t kt
      refine pre1 t ?_
      refine st2.trans ?_
      show Steps p.tables e below (T2.setTop (mkF m 4 #[.val (.ref a1), .val (.int (2 : Int32))] [(.int (1 : Int32))])) _
      refine XS.ifNo X2.here hx rfl (hb hby d12_4) rfl ((if0 _ _).trans (feq (by decide : ¬ ((1 : Int32) = (0 : Int32)))).1) ?_
      show Steps p.tables e below (T2.setTop (mkF m 7 #[.val (.ref a1), .val (.int (2 : Int32))] [])) _
      refine XS.aloadN X2.here hx rfl (hb hby d12_7) rfl rfl ?_
      show Steps p.tables e below (T2.setTop (mkF m 8 #[.val (.ref a1), .val (.int (2 : Int32))] [(.ref a1)])) _
      exact kt
    obtain ⟨T4, X4, e4, st4⟩ := getF X2 hx hZ hown (host := "") (Or.inl (hw _ (own_w 55 rfl))) Via.refl eq2 oV (g := (mkF m 8 #[.val (.ref a1), .val (.int (2 : Int32))] [(.ref a1)])) rfl rfl (hb hby d12_8)
    have pre5 : own_Go p e below S0 (T4.setTop (mkF m 12 #[.val (.ref a1), .val (.int (2 : Int32))] [(.int (2 : Int32)), (.ref vb)])) := by
      intro t kt
      refine pre3 t ?_
      refine st4 _ ?_
      show Steps p.tables e below (T4.setTop (mkF m 11 #[.val (.ref a1), .val (.int (2 : Int32))] [(.ref vb)])) _
      refine XS.iloadN X4.here hx rfl (hb hby d12_11) rfl ?_
      show Steps p.tables e below (T4.setTop (mkF m 12 #[.val (.ref a1), .val (.int (2 : Int32))] [(.int (2 : Int32)), (.ref vb)])) _
      exact kt
    obtain ⟨_, _, ⟨T6, L6, k6, n6⟩, -, X6, ⟨Lc6, hQ6, l6, y6, z6⟩, st6⟩ := Jvm.LawKit.callS X4 hx (y := (⟨"java/lang/StringLatin1", "charAt", "([BI)C"⟩ : MethodName)) hown (mvT hZ (hw _ (own_w 77 rfl))) (mvT hZ (hw _ (own_w 78 rfl))) (mvT hZ (hw _ (own_w 79 rfl))) (mvT hZ (hw _ (own_w 80 rfl))) (by decide) (backOf (W := 0) (rml1at l Z a0 hw [] vb (2 : Int32) wF kb (4 : Int32) [(.int (nar .byte (c0.toInt8.toInt32))), (.int (nar .byte (c1.toInt8.toInt32))), (.int (nar .byte (c2.toInt8.toInt32))), (.int (nar .byte (c3.toInt8.toInt32)))] (.int (0 : Int32)) (nar .byte (c2.toInt8.toInt32)) h0 n0 Z0 O0 SF hF oB (by decide) (by decide) rfl) hZ (hw _ (own_w 80 rfl)) (hw _ (own_w 79 rfl)) (by decide) (by decide)) (g := (mkF m 12 #[.val (.ref a1), .val (.int (2 : Int32))] [(.int (2 : Int32)), (.ref vb)])) rfl (by rw [hml]; rfl) (argsL := [(.ref vb), (.int (2 : Int32))]) (rest := []) (lenOf pd_5 rfl) rfl (by show 2 * 0 + _ ≤ _; exact Nat.le_of_eq rfl) (hb hby d12_12) (fun _ _ => ⟨rfl, e4, (by decide : 0 + 0 ≤ _), (by decide : 0 + 0 ≤ _)⟩)
    dsimp only [Pt.U, Pt.locs, Pt.cells, Pt.slots] at X6 l6 y6 z6 st6 hQ6
    subst l6 y6 z6
    obtain ⟨rfl, Nq6, eq6⟩ := hQ6
    have N6 := Fr.app N2 Nq6
    have pre7 : own_Go p e below S0 (T6.setTop (mkF m 15 #[.val (.ref a1), .val (.int (2 : Int32))] [(.int (own_lc (nar .byte (c2.toInt8.toInt32))))])) := by
      intro t kt
      refine pre5 t ?_
      refine st6 _ ?_
      show Steps p.tables e below (T6.setTop (mkF m 15 #[.val (.ref a1), .val (.int (2 : Int32))] [(.int (own_lc (nar .byte (c2.toInt8.toInt32))))])) _
      exact kt
    obtain ⟨fs, hr, hrun, hended, hW, hsame⟩ := X6.leave (v := some (.int (nar .char (own_lc (nar .byte (c2.toInt8.toInt32)))))) (fun h => by rw [Bd.returns] at h; cases h)
    refine ⟨_, _, fin _ (pre7 _ ?_), hrun, hended, _, _, rfl, ?_, ⟨_, rfl⟩, hW, hsame.mono (by decide) (by decide)⟩
    · exact retN X6 hx (t := .char) Bd.returns (by simp) (hb hby d12_15) hr
    · show QcharAt_2_4 Z a1 wC wF vb kb c0 c1 c2 c3 h0 n0 _ T6.heap _
      rw [eq6]
      exact ⟨(by show some (Value.int (nar .char _)) = _; rw [own_latget c2 oL.2.2.1, own_narChar c2 oL.2.2.1.1 (by have q := oL.2.2.1; omega)]), N6, rfl⟩
  · have oB : Arv Z h0 vb kb .byte (8 : Int32) [(.int (nar .byte ((c0 >>> ((0 : Int32) &&& 31)).toInt8.toInt32))), (.int (nar .byte ((c0 >>> ((8 : Int32) &&& 31)).toInt8.toInt32))), (.int (nar .byte ((c1 >>> ((0 : Int32) &&& 31)).toInt8.toInt32))), (.int (nar .byte ((c1 >>> ((8 : Int32) &&& 31)).toInt8.toInt32))), (.int (nar .byte ((c2 >>> ((0 : Int32) &&& 31)).toInt8.toInt32))), (.int (nar .byte ((c2 >>> ((8 : Int32) &&& 31)).toInt8.toInt32))), (.int (nar .byte ((c3 >>> ((0 : Int32) &&& 31)).toInt8.toInt32))), (.int (nar .byte ((c3 >>> ((8 : Int32) &&& 31)).toInt8.toInt32)))] (.int (0 : Int32)) := oA
    have pre8 : own_Go p e below S0 (s₁.setTop (mkF m 1 #[.val (.ref a1), .val (.int (2 : Int32))] [(.ref a1)])) := by
      intro t kt
      refine pre0 t ?_
      refine XS.aloadN X0.here hx rfl (hb hby d12_0) rfl rfl ?_
      show Steps p.tables e below (s₁.setTop (mkF m 1 #[.val (.ref a1), .val (.int (2 : Int32))] [(.ref a1)])) _
      exact kt
    obtain ⟨cq9, kq9, qa9, qb9, qc9⟩ := isOf hZ e0 oE
    obtain ⟨_, _, ⟨T9, L9, k9, n9⟩, -, X9, ⟨Lc9, hQ9, l9, y9, z9⟩, st9⟩ := X0.virtualBack hx (y := (⟨"java/lang/String", "isLatin1", "()Z"⟩ : MethodName)) (z := (⟨"java/lang/String", "isLatin1", "()Z"⟩ : MethodName)) hown (mvT hZ (hw _ (own_w 72 rfl))) (mvT hZ (hw _ (own_w 73 rfl))) (notFace_of_selects (args := #[]) (mvT hZ (hw _ (own_w 75 rfl)))) (mvT hZ (hw _ (own_w 75 rfl))) (mvT hZ (hw _ (own_w 74 rfl))) (by decide) (backOf (W := 0) (rmisLat1 l Z a0 hw [] a1 wC h0 n0 Z0 O0 SC hC oK) hZ (hw _ (own_w 76 rfl)) (hw _ (own_w 31 rfl)) (by decide) (by decide)) qa9 qc9 (g := (mkF m 1 #[.val (.ref a1), .val (.int (2 : Int32))] [(.ref a1)])) rfl (by rw [hml]; rfl) (Steps.refl _) (argsL := []) (rest := []) (lenOf pd_13 rfl) rfl (by show 2 * 0 + _ ≤ _; exact Nat.le_of_eq rfl) (hb hby d12_1) (fun _ _ => ⟨rfl, e0, (by decide : 0 + 0 ≤ _), (by decide : 0 + 0 ≤ _)⟩)
    dsimp only [Pt.U, Pt.locs, Pt.cells, Pt.slots] at X9 l9 y9 z9 st9 hQ9
    subst l9 y9 z9
    obtain ⟨rfl, Nq9, eq9⟩ := hQ9
    have N9 := Fr.app N0 Nq9
    have pre10 : own_Go p e below S0 (T9.setTop (mkF m 17 #[.val (.ref a1), .val (.int (2 : Int32))] [(.ref a1)])) := by
      intro t kt
      refine pre8 t ?_
      refine st9.trans ?_
      show Steps p.tables e below (T9.setTop (mkF m 4 #[.val (.ref a1), .val (.int (2 : Int32))] [(.int (0 : Int32))])) _
      refine XS.ifYes X9.here hx rfl (pc0 := 4) (pc' := 16) rfl (hb hby d12_4) rfl ((if0 _ _).trans (teq (by decide : (0 : Int32) = (0 : Int32))).1) (by decide) (by decide) ?_
      show Steps p.tables e below (T9.setTop (mkF m 16 #[.val (.ref a1), .val (.int (2 : Int32))] [])) _
      refine XS.aloadN X9.here hx rfl (hb hby d12_16) rfl rfl ?_
      show Steps p.tables e below (T9.setTop (mkF m 17 #[.val (.ref a1), .val (.int (2 : Int32))] [(.ref a1)])) _
      exact kt
    obtain ⟨T11, X11, e11, st11⟩ := getF X9 hx hZ hown (host := "") (Or.inl (hw _ (own_w 55 rfl))) Via.refl eq9 oV (g := (mkF m 17 #[.val (.ref a1), .val (.int (2 : Int32))] [(.ref a1)])) rfl rfl (hb hby d12_17)
    have pre12 : own_Go p e below S0 (T11.setTop (mkF m 21 #[.val (.ref a1), .val (.int (2 : Int32))] [(.int (2 : Int32)), (.ref vb)])) := by
      intro t kt
      refine pre10 t ?_
      refine st11 _ ?_
      show Steps p.tables e below (T11.setTop (mkF m 20 #[.val (.ref a1), .val (.int (2 : Int32))] [(.ref vb)])) _
      refine XS.iloadN X11.here hx rfl (hb hby d12_20) rfl ?_
      show Steps p.tables e below (T11.setTop (mkF m 21 #[.val (.ref a1), .val (.int (2 : Int32))] [(.int (2 : Int32)), (.ref vb)])) _
      exact kt
    obtain ⟨_, _, ⟨T13, L13, k13, n13⟩, -, X13, ⟨Lc13, hQ13, l13, y13, z13⟩, st13⟩ := Jvm.LawKit.callS X11 hx (y := (⟨"java/lang/StringUTF16", "charAt", "([BI)C"⟩ : MethodName)) hown (mvT hZ (hw _ (own_w 108 rfl))) (mvT hZ (hw _ (own_w 109 rfl))) (mvT hZ (hw _ (own_w 44 rfl))) (mvT hZ (hw _ (own_w 110 rfl))) (by decide) (backOf (W := 0) (rmu16at_2_8 l Z a0 hw [] vb wF kb (nar .byte ((c2 >>> ((0 : Int32) &&& 31)).toInt8.toInt32)) (nar .byte ((c2 >>> ((8 : Int32) &&& 31)).toInt8.toInt32)) (.int (nar .byte ((c0 >>> ((0 : Int32) &&& 31)).toInt8.toInt32))) (.int (nar .byte ((c0 >>> ((8 : Int32) &&& 31)).toInt8.toInt32))) (.int (nar .byte ((c1 >>> ((0 : Int32) &&& 31)).toInt8.toInt32))) (.int (nar .byte ((c1 >>> ((8 : Int32) &&& 31)).toInt8.toInt32))) (.int (nar .byte ((c3 >>> ((0 : Int32) &&& 31)).toInt8.toInt32))) (.int (nar .byte ((c3 >>> ((8 : Int32) &&& 31)).toInt8.toInt32))) h0 n0 Z0 O0 SA SH SL SF hF oB) hZ (hw _ (own_w 110 rfl)) (hw _ (own_w 44 rfl)) (by decide) (by decide)) (g := (mkF m 21 #[.val (.ref a1), .val (.int (2 : Int32))] [(.int (2 : Int32)), (.ref vb)])) rfl (by rw [hml]; rfl) (argsL := [(.ref vb), (.int (2 : Int32))]) (rest := []) (lenOf pd_5 rfl) rfl (by show 2 * 0 + _ ≤ _; exact Nat.le_of_eq rfl) (hb hby d12_21) (fun _ _ => ⟨rfl, e11, (by decide : 0 + 0 ≤ _), (by decide : 0 + 0 ≤ _)⟩)
    dsimp only [Pt.U, Pt.locs, Pt.cells, Pt.slots] at X13 l13 y13 z13 st13 hQ13
    subst l13 y13 z13
    obtain ⟨rfl, Nq13, eq13⟩ := hQ13
    have N13 := Fr.app N9 Nq13
    have pre14 : own_Go p e below S0 (T13.setTop (mkF m 24 #[.val (.ref a1), .val (.int (2 : Int32))] [(.int (own_gc (nar .byte ((c2 >>> ((0 : Int32) &&& 31)).toInt8.toInt32)) (nar .byte ((c2 >>> ((8 : Int32) &&& 31)).toInt8.toInt32))))])) := by
      intro t kt
      refine pre12 t ?_
      refine st13 _ ?_
      show Steps p.tables e below (T13.setTop (mkF m 24 #[.val (.ref a1), .val (.int (2 : Int32))] [(.int (own_gc (nar .byte ((c2 >>> ((0 : Int32) &&& 31)).toInt8.toInt32)) (nar .byte ((c2 >>> ((8 : Int32) &&& 31)).toInt8.toInt32))))])) _
      exact kt
    obtain ⟨fs, hr, hrun, hended, hW, hsame⟩ := X13.leave (v := some (.int (nar .char (own_gc (nar .byte ((c2 >>> ((0 : Int32) &&& 31)).toInt8.toInt32)) (nar .byte ((c2 >>> ((8 : Int32) &&& 31)).toInt8.toInt32)))))) (fun h => by rw [Bd.returns] at h; cases h)
    refine ⟨_, _, fin _ (pre14 _ ?_), hrun, hended, _, _, rfl, ?_, ⟨_, rfl⟩, hW, hsame.mono (by decide) (by decide)⟩
    · exact retN X13 hx (t := .char) Bd.returns (by simp) (hb hby d12_24) hr
    · show QcharAt_2_4 Z a1 wC wF vb kb c0 c1 c2 c3 h0 n0 _ T13.heap _
      rw [eq13]
      exact ⟨(by show some (Value.int (nar .char _)) = _; rw [own_utfget c2 oL.2.2.1, own_narChar c2 oL.2.2.1.1 (by have q := oL.2.2.1; omega)]), N13, rfl⟩

theorem ef_u16ck_3_8 (m : MethodId) (x1 : Addr) : entryFrame m #[(.int (3 : Int32)), (.ref x1)] 2 = mkF m 0 #[.val (.int (3 : Int32)), .val (.ref x1)] [] := by first | (simp [entryFrame, mkF, argsToLocals, Value.category]; done) | rfl
def Qu16ck_3_8 (Z : State) (a2 : Addr) (wF : Value) (k1 : ClassId) (vs : List Value) (d1 : Value) (h0 : Heap) (n0 : Nat) (v : Option Value) (h : Heap) (L : List Loc) : Prop := v = none ∧ Fr n0 L ∧ h = h0
set_option maxRecDepth 65536 in
set_option maxHeartbeats 40000000 in
theorem rmu16ck_3_8 (l : Launch) (Z : State) (a0 : Array Value) (hw : ∀ d ∈ tables_1, d.before a0 Z = true) (ws : List Jvm.Cond) (a2 : Addr) (wF : Value) (k1 : ClassId) (vs : List Value) (d1 : Value) (h0 : Heap) (n0 : Nat) (Z0 : n0 ≤ h0.size) (O0 : Old Z n0 h0) (SF : Sta Z Z.heap "jdk/internal/util/Preconditions" "SIOOBE_FORMATTER" "Ljava/util/function/BiFunction;" wF) (hF : (wF.isRef = true)) (V1 : Arv Z h0 a2 k1 .byte (8 : Int32) vs d1) :
    MetFree l (⟨"java/lang/StringUTF16", "checkIndex", "(I[B)V"⟩ : MethodName) (head1 (Jvm.Cond.code (⟨"java/lang/StringUTF16", "checkIndex", "(I[B)V"⟩ : MethodName) jdk_52_method_91_code 2 none :: ws) ({ frames := 2, cells := 0, slots := 0, locals := 27 } : Room)) (fun a U => a = #[(.int (3 : Int32)), (.ref a2)] ∧ Z.Warmed39 U.vm ∧ U.heap = h0) (fun _ _ _ _ _ => True) (fun _ U o U' => ∃ v L, o = .returned v ∧ Qu16ck_3_8 Z a2 wF k1 vs d1 h0 n0 v U'.heap L ∧ FrameEnd U o U' L ({ frames := 2, cells := 0, slots := 0, locals := 27 } : Room).cells ({ frames := 2, cells := 0, slots := 0, locals := 27 } : Room).slots) := by
  refine MetFree.of_bodySF (plainFor_of_name pn_23) hisR ?_
  intro p e s m args below meth c s₁ Bd hml0 hP hK
  obtain ⟨rfl, hZ, hh⟩ := hP
  have hx := Bd.exec
  have hby := Bd.bytes
  have hml : c.maxLocals = 2 := hml0
  have hown0 := findClass_of_methodNamed Bd.named
  have hown : s.vm.findClass "java/lang/StringUTF16" = some m.cls := hown0
  have hnm := (name_of_methodNamed Bd.named Bd.method).1
  have X0 : Stand p l e ({ frames := 2, cells := 0, slots := 0, locals := 27 } : Room) s m #[(.int (3 : Int32)), (.ref a2)] below meth c s₁ [] 0 0 := Stand.of_body Bd
  have e0 : s₁.heap = h0 := by rw [← hh, Bd.state]; rfl
  have N0 := Fr.nil n0
  obtain ⟨S0, hS0⟩ : ∃ z, z = s₁.setTop (entryFrame m #[(.int (3 : Int32)), (.ref a2)] 2) := ⟨_, rfl⟩
  have pre0 : own_Go p e below S0 (s₁.setTop (mkF m 0 #[.val (.int (3 : Int32)), .val (.ref a2)] [])) := fun t k => by rw [hS0]; exact castTop (ef_u16ck_3_8 m a2) k
  have fin : ∀ t, Steps p.tables e below S0 t → Steps p.tables e below (s₁.setTop (entryFrame m #[(.int (3 : Int32)), (.ref a2)] 2)) t := fun t k => by rw [hS0] at k; exact k
  have pre1 : own_Go p e below S0 (s₁.setTop (mkF m 2 #[.val (.int (3 : Int32)), .val (.ref a2)] [(.ref a2), (.int (3 : Int32))])) := by
    intro t kt
    refine pre0 t ?_
    refine XS.iloadN X0.here hx rfl (hb hby d23_0) rfl ?_
    show Steps p.tables e below (s₁.setTop (mkF m 1 #[.val (.int (3 : Int32)), .val (.ref a2)] [(.int (3 : Int32))])) _
    refine XS.aloadN X0.here hx rfl (hb hby d23_1) rfl rfl ?_
    show Steps p.tables e below (s₁.setTop (mkF m 2 #[.val (.int (3 : Int32)), .val (.ref a2)] [(.ref a2), (.int (3 : Int32))])) _
    exact kt
  obtain ⟨_, _, ⟨T2, L2, k2, n2⟩, -, X2, ⟨Lc2, hQ2, l2, y2, z2⟩, st2⟩ := Jvm.LawKit.callS X0 hx (y := (⟨"java/lang/StringUTF16", "length", "([B)I"⟩ : MethodName)) hown (mvT hZ (hw _ (own_w 114 rfl))) (mvT hZ (hw _ (own_w 115 rfl))) (mvT hZ (hw _ (own_w 44 rfl))) (mvT hZ (hw _ (own_w 116 rfl))) (by decide) (backOf (W := 1) (rmu16len_8 l Z a0 hw [] a2 k1 vs d1 h0 n0 Z0 V1) hZ (hw _ (own_w 116 rfl)) (hw _ (own_w 44 rfl)) (by decide) (by decide)) (g := (mkF m 2 #[.val (.int (3 : Int32)), .val (.ref a2)] [(.ref a2), (.int (3 : Int32))])) rfl (by rw [hml]; rfl) (argsL := [(.ref a2)]) (rest := [(.int (3 : Int32))]) (lenOf pd_11 rfl) rfl (by show 2 * 0 + _ ≤ _; exact Nat.le_of_eq rfl) (hb hby d23_2) (fun _ _ => ⟨rfl, e0, (by decide : 0 + 0 ≤ _), (by decide : 0 + 0 ≤ _)⟩)
  dsimp only [Pt.U, Pt.locs, Pt.cells, Pt.slots] at X2 l2 y2 z2 st2 hQ2
  subst l2 y2 z2
  obtain ⟨rfl, Nq2, eq2⟩ := hQ2
  have N2 := Fr.app N0 Nq2
  have pre3 : own_Go p e below S0 (T2.setTop (mkF m 5 #[.val (.int (3 : Int32)), .val (.ref a2)] [(.int (4 : Int32)), (.int (3 : Int32))])) := by
    intro t kt
    refine pre1 t ?_
    refine st2 _ ?_
    show Steps p.tables e below (T2.setTop (mkF m 5 #[.val (.int (3 : Int32)), .val (.ref a2)] [(.int (4 : Int32)), (.int (3 : Int32))])) _
    exact kt
  obtain ⟨_, _, ⟨T4, L4, k4, n4⟩, -, X4, ⟨Lc4, hQ4, l4, y4, z4⟩, st4⟩ := Jvm.LawKit.callS X2 hx (y := (⟨"java/lang/String", "checkIndex", "(II)V"⟩ : MethodName)) hown (mvT hZ (hw _ (own_w 117 rfl))) (mvT hZ (hw _ (own_w 82 rfl))) (mvT hZ (hw _ (own_w 31 rfl))) (mvT hZ (hw _ (own_w 83 rfl))) (by decide) (backOf (W := 0) (rmsck l Z a0 hw [] (3 : Int32) (4 : Int32) wF h0 n0 Z0 O0 SF hF (by decide) (by decide)) hZ (hw _ (own_w 83 rfl)) (hw _ (own_w 31 rfl)) (by decide) (by decide)) (g := (mkF m 5 #[.val (.int (3 : Int32)), .val (.ref a2)] [(.int (4 : Int32)), (.int (3 : Int32))])) rfl (by rw [hml]; rfl) (argsL := [(.int (3 : Int32)), (.int (4 : Int32))]) (rest := []) (lenOf pd_10 rfl) rfl (by show 2 * 0 + _ ≤ _; exact Nat.le_of_eq rfl) (hb hby d23_5) (fun _ _ => ⟨rfl, eq2, (by decide : 0 + 0 ≤ _), (by decide : 0 + 0 ≤ _)⟩)
  dsimp only [Pt.U, Pt.locs, Pt.cells, Pt.slots] at X4 l4 y4 z4 st4 hQ4
  subst l4 y4 z4
  obtain ⟨rfl, Nq4, eq4⟩ := hQ4
  have N4 := Fr.app N2 Nq4
  have pre5 : own_Go p e below S0 (T4.setTop (mkF m 8 #[.val (.int (3 : Int32)), .val (.ref a2)] [])) := by
    intro t kt
    refine pre3 t ?_
    refine st4 _ ?_
    show Steps p.tables e below (T4.setTop (mkF m 8 #[.val (.int (3 : Int32)), .val (.ref a2)] [])) _
    exact kt
  obtain ⟨fs, hr, hrun, hended, hW, hsame⟩ := X4.leave (v := none) (fun _ => rfl)
  refine ⟨_, _, fin _ (pre5 _ ?_), hrun, hended, _, _, rfl, ?_, ⟨_, rfl⟩, hW, hsame.mono (by decide) (by decide)⟩
  · exact X4.returnOut hx Bd.returns (hb hby d23_8) hr
  · show Qu16ck_3_8 Z a2 wF k1 vs d1 h0 n0 _ T4.heap _
    rw [eq4]
    exact ⟨rfl, N4, rfl⟩

theorem ef_u16at_3_8 (m : MethodId) (x0 : Addr) : entryFrame m #[(.ref x0), (.int (3 : Int32))] 2 = mkF m 0 #[.val (.ref x0), .val (.int (3 : Int32))] [] := by first | (simp [entryFrame, mkF, argsToLocals, Value.category]; done) | rfl
def Qu16at_3_8 (Z : State) (a1 : Addr) (wF : Value) (k1 : ClassId) (b0 : Int32) (b1 : Int32) (u0 : Value) (u1 : Value) (u2 : Value) (u3 : Value) (u4 : Value) (u5 : Value) (h0 : Heap) (n0 : Nat) (v : Option Value) (h : Heap) (L : List Loc) : Prop := v = (some (.int (own_gc b0 b1))) ∧ Fr n0 L ∧ h = h0
set_option maxRecDepth 65536 in
set_option maxHeartbeats 40000000 in
theorem rmu16at_3_8 (l : Launch) (Z : State) (a0 : Array Value) (hw : ∀ d ∈ tables_1, d.before a0 Z = true) (ws : List Jvm.Cond) (a1 : Addr) (wF : Value) (k1 : ClassId) (b0 : Int32) (b1 : Int32) (u0 : Value) (u1 : Value) (u2 : Value) (u3 : Value) (u4 : Value) (u5 : Value) (h0 : Heap) (n0 : Nat) (Z0 : n0 ≤ h0.size) (O0 : Old Z n0 h0) (SA : Sta Z Z.heap "java/lang/StringUTF16" "$assertionsDisabled" "Z" (.int (1 : Int32))) (SH : Sta Z Z.heap "java/lang/StringUTF16" "HI_BYTE_SHIFT" "I" (.int (0 : Int32))) (SL : Sta Z Z.heap "java/lang/StringUTF16" "LO_BYTE_SHIFT" "I" (.int (8 : Int32))) (SF : Sta Z Z.heap "jdk/internal/util/Preconditions" "SIOOBE_FORMATTER" "Ljava/util/function/BiFunction;" wF) (hF : (wF.isRef = true)) (V1 : Arv Z h0 a1 k1 .byte (8 : Int32) [u0, u1, u2, u3, u4, u5, (.int b0), (.int b1)] (.int (0 : Int32))) :
    MetFree l (⟨"java/lang/StringUTF16", "charAt", "([BI)C"⟩ : MethodName) (head1 (Jvm.Cond.code (⟨"java/lang/StringUTF16", "charAt", "([BI)C"⟩ : MethodName) jdk_52_method_83_code 2 (some .char) :: ws) ({ frames := 3, cells := 0, slots := 0, locals := 40 } : Room)) (fun a U => a = #[(.ref a1), (.int (3 : Int32))] ∧ Z.Warmed39 U.vm ∧ U.heap = h0) (fun _ _ _ _ _ => True) (fun _ U o U' => ∃ v L, o = .returned v ∧ Qu16at_3_8 Z a1 wF k1 b0 b1 u0 u1 u2 u3 u4 u5 h0 n0 v U'.heap L ∧ FrameEnd U o U' L ({ frames := 3, cells := 0, slots := 0, locals := 40 } : Room).cells ({ frames := 3, cells := 0, slots := 0, locals := 40 } : Room).slots) := by
  refine MetFree.of_bodySF (plainFor_of_name pn_22) hisR ?_
  intro p e s m args below meth c s₁ Bd hml0 hP hK
  obtain ⟨rfl, hZ, hh⟩ := hP
  have hx := Bd.exec
  have hby := Bd.bytes
  have hml : c.maxLocals = 2 := hml0
  have hown0 := findClass_of_methodNamed Bd.named
  have hown : s.vm.findClass "java/lang/StringUTF16" = some m.cls := hown0
  have hnm := (name_of_methodNamed Bd.named Bd.method).1
  have X0 : Stand p l e ({ frames := 3, cells := 0, slots := 0, locals := 40 } : Room) s m #[(.ref a1), (.int (3 : Int32))] below meth c s₁ [] 0 0 := Stand.of_body Bd
  have e0 : s₁.heap = h0 := by rw [← hh, Bd.state]; rfl
  have N0 := Fr.nil n0
  obtain ⟨S0, hS0⟩ : ∃ z, z = s₁.setTop (entryFrame m #[(.ref a1), (.int (3 : Int32))] 2) := ⟨_, rfl⟩
  have pre0 : own_Go p e below S0 (s₁.setTop (mkF m 0 #[.val (.ref a1), .val (.int (3 : Int32))] [])) := fun t k => by rw [hS0]; exact castTop (ef_u16at_3_8 m a1) k
  have fin : ∀ t, Steps p.tables e below S0 t → Steps p.tables e below (s₁.setTop (entryFrame m #[(.ref a1), (.int (3 : Int32))] 2)) t := fun t k => by rw [hS0] at k; exact k
  have pre1 : own_Go p e below S0 (s₁.setTop (mkF m 2 #[.val (.ref a1), .val (.int (3 : Int32))] [(.ref a1), (.int (3 : Int32))])) := by
    intro t kt
    refine pre0 t ?_
    refine XS.iloadN X0.here hx rfl (hb hby d22_0) rfl ?_
    show Steps p.tables e below (s₁.setTop (mkF m 1 #[.val (.ref a1), .val (.int (3 : Int32))] [(.int (3 : Int32))])) _
    refine XS.aloadN X0.here hx rfl (hb hby d22_1) rfl rfl ?_
    show Steps p.tables e below (s₁.setTop (mkF m 2 #[.val (.ref a1), .val (.int (3 : Int32))] [(.ref a1), (.int (3 : Int32))])) _
    exact kt
  obtain ⟨_, _, ⟨T2, L2, k2, n2⟩, -, X2, ⟨Lc2, hQ2, l2, y2, z2⟩, st2⟩ := Jvm.LawKit.callS X0 hx (y := (⟨"java/lang/StringUTF16", "checkIndex", "(I[B)V"⟩ : MethodName)) hown (mvT hZ (hw _ (own_w 111 rfl))) (mvT hZ (hw _ (own_w 112 rfl))) (mvT hZ (hw _ (own_w 44 rfl))) (mvT hZ (hw _ (own_w 113 rfl))) (by decide) (backOf (W := 0) (rmu16ck_3_8 l Z a0 hw [] a1 wF k1 [u0, u1, u2, u3, u4, u5, (.int b0), (.int b1)] (.int (0 : Int32)) h0 n0 Z0 O0 SF hF V1) hZ (hw _ (own_w 113 rfl)) (hw _ (own_w 44 rfl)) (by decide) (by decide)) (g := (mkF m 2 #[.val (.ref a1), .val (.int (3 : Int32))] [(.ref a1), (.int (3 : Int32))])) rfl (by rw [hml]; rfl) (argsL := [(.int (3 : Int32)), (.ref a1)]) (rest := []) (lenOf pd_12 rfl) rfl (by show 2 * 0 + _ ≤ _; exact Nat.le_of_eq rfl) (hb hby d22_2) (fun _ _ => ⟨rfl, e0, (by decide : 0 + 0 ≤ _), (by decide : 0 + 0 ≤ _)⟩)
  dsimp only [Pt.U, Pt.locs, Pt.cells, Pt.slots] at X2 l2 y2 z2 st2 hQ2
  subst l2 y2 z2
  obtain ⟨rfl, Nq2, eq2⟩ := hQ2
  have N2 := Fr.app N0 Nq2
  have pre3 : own_Go p e below S0 (T2.setTop (mkF m 7 #[.val (.ref a1), .val (.int (3 : Int32))] [(.int (3 : Int32)), (.ref a1)])) := by
    intro t kt
    refine pre1 t ?_
    refine st2 _ ?_
    show Steps p.tables e below (T2.setTop (mkF m 5 #[.val (.ref a1), .val (.int (3 : Int32))] [])) _
    refine XS.aloadN X2.here hx rfl (hb hby d22_5) rfl rfl ?_
    show Steps p.tables e below (T2.setTop (mkF m 6 #[.val (.ref a1), .val (.int (3 : Int32))] [(.ref a1)])) _
    refine XS.iloadN X2.here hx rfl (hb hby d22_6) rfl ?_
    show Steps p.tables e below (T2.setTop (mkF m 7 #[.val (.ref a1), .val (.int (3 : Int32))] [(.int (3 : Int32)), (.ref a1)])) _
    exact kt
  obtain ⟨_, _, ⟨T4, L4, k4, n4⟩, -, X4, ⟨Lc4, hQ4, l4, y4, z4⟩, st4⟩ := Jvm.LawKit.callS X2 hx (y := (⟨"java/lang/StringUTF16", "getChar", "([BI)C"⟩ : MethodName)) hown (mvT hZ (hw _ (own_w 105 rfl))) (mvT hZ (hw _ (own_w 106 rfl))) (mvT hZ (hw _ (own_w 44 rfl))) (mvT hZ (hw _ (own_w 107 rfl))) (by decide) (backOf (W := 0) (rmgetc_3_8 l Z a0 hw [] a1 k1 b0 b1 u0 u1 u2 u3 u4 u5 h0 n0 Z0 O0 SA SH SL V1) hZ (hw _ (own_w 107 rfl)) (hw _ (own_w 44 rfl)) (by decide) (by decide)) (g := (mkF m 7 #[.val (.ref a1), .val (.int (3 : Int32))] [(.int (3 : Int32)), (.ref a1)])) rfl (by rw [hml]; rfl) (argsL := [(.ref a1), (.int (3 : Int32))]) (rest := []) (lenOf pd_5 rfl) rfl (by show 2 * 0 + _ ≤ _; exact Nat.le_of_eq rfl) (hb hby d22_7) (fun _ _ => ⟨rfl, eq2, (by decide : 0 + 0 ≤ _), (by decide : 0 + 0 ≤ _)⟩)
  dsimp only [Pt.U, Pt.locs, Pt.cells, Pt.slots] at X4 l4 y4 z4 st4 hQ4
  subst l4 y4 z4
  obtain ⟨rfl, Nq4, eq4⟩ := hQ4
  have N4 := Fr.app N2 Nq4
  have pre5 : own_Go p e below S0 (T4.setTop (mkF m 10 #[.val (.ref a1), .val (.int (3 : Int32))] [(.int (own_gc b0 b1))])) := by
    intro t kt
    refine pre3 t ?_
    refine st4 _ ?_
    show Steps p.tables e below (T4.setTop (mkF m 10 #[.val (.ref a1), .val (.int (3 : Int32))] [(.int (own_gc b0 b1))])) _
    exact kt
  obtain ⟨fs, hr, hrun, hended, hW, hsame⟩ := X4.leave (v := some (.int (nar .char (own_gc b0 b1)))) (fun h => by rw [Bd.returns] at h; cases h)
  refine ⟨_, _, fin _ (pre5 _ ?_), hrun, hended, _, _, rfl, ?_, ⟨_, rfl⟩, hW, hsame.mono (by decide) (by decide)⟩
  · exact retN X4 hx (t := .char) Bd.returns (by simp) (hb hby d22_10) hr
  · show Qu16at_3_8 Z a1 wF k1 b0 b1 u0 u1 u2 u3 u4 u5 h0 n0 _ T4.heap _
    rw [eq4]
    exact ⟨(congrArg (fun q => some (Value.int q)) (own_narChar2 _ _)), N4, rfl⟩

theorem ef_charAt_3_4 (m : MethodId) (x0 : Addr) : entryFrame m #[(.ref x0), (.int (3 : Int32))] 2 = mkF m 0 #[.val (.ref x0), .val (.int (3 : Int32))] [] := by first | (simp [entryFrame, mkF, argsToLocals, Value.category]; done) | rfl
def QcharAt_3_4 (Z : State) (a1 : Addr) (wC : Int32) (wF : Value) (vb : Addr) (kb : ClassId) (c0 : Int32) (c1 : Int32) (c2 : Int32) (c3 : Int32) (h0 : Heap) (n0 : Nat) (v : Option Value) (h : Heap) (L : List Loc) : Prop := v = (some (.int c3)) ∧ Fr n0 L ∧ h = h0
set_option maxRecDepth 65536 in
set_option maxHeartbeats 40000000 in
theorem rmcharAt_3_4 (l : Launch) (Z : State) (a0 : Array Value) (hw : ∀ d ∈ tables_1, d.before a0 Z = true) (ws : List Jvm.Cond) (a1 : Addr) (wC : Int32) (wF : Value) (vb : Addr) (kb : ClassId) (c0 : Int32) (c1 : Int32) (c2 : Int32) (c3 : Int32) (h0 : Heap) (n0 : Nat) (Z0 : n0 ≤ h0.size) (O0 : Old Z n0 h0) (SC : Sta Z Z.heap "java/lang/String" "COMPACT_STRINGS" "Z" (.int wC)) (hC : (¬ wC = (0 : Int32))) (SA : Sta Z Z.heap "java/lang/StringUTF16" "$assertionsDisabled" "Z" (.int (1 : Int32))) (SH : Sta Z Z.heap "java/lang/StringUTF16" "HI_BYTE_SHIFT" "I" (.int (0 : Int32))) (SL : Sta Z Z.heap "java/lang/StringUTF16" "LO_BYTE_SHIFT" "I" (.int (8 : Int32))) (SF : Sta Z Z.heap "jdk/internal/util/Preconditions" "SIOOBE_FORMATTER" "Ljava/util/function/BiFunction;" wF) (hF : (wF.isRef = true)) (hS : own_Str Z h0 a1 vb kb [c0, c1, c2, c3]) :
    MetFree l (⟨"java/lang/String", "charAt", "(I)C"⟩ : MethodName) (head1 (Jvm.Cond.code (⟨"java/lang/String", "charAt", "(I)C"⟩ : MethodName) jdk_42_method_56_code 2 (some .char) :: ws) ({ frames := 4, cells := 0, slots := 0, locals := 53 } : Room)) (fun a U => a = #[(.ref a1), (.int (3 : Int32))] ∧ Z.Warmed39 U.vm ∧ U.heap = h0) (fun _ _ _ _ _ => True) (fun _ U o U' => ∃ v L, o = .returned v ∧ QcharAt_3_4 Z a1 wC wF vb kb c0 c1 c2 c3 h0 n0 v U'.heap L ∧ FrameEnd U o U' L ({ frames := 4, cells := 0, slots := 0, locals := 53 } : Room).cells ({ frames := 4, cells := 0, slots := 0, locals := 53 } : Room).slots) := by
  refine MetFree.of_bodySF (plainFor_of_name pn_12) hisR ?_
  intro p e s m args below meth c s₁ Bd hml0 hP hK
  obtain ⟨rfl, hZ, hh⟩ := hP
  have hx := Bd.exec
  have hby := Bd.bytes
  have hml : c.maxLocals = 2 := hml0
  have hown0 := findClass_of_methodNamed Bd.named
  have hown : s.vm.findClass "java/lang/String" = some m.cls := hown0
  have hnm := (name_of_methodNamed Bd.named Bd.method).1
  have X0 : Stand p l e ({ frames := 4, cells := 0, slots := 0, locals := 53 } : Room) s m #[(.ref a1), (.int (3 : Int32))] below meth c s₁ [] 0 0 := Stand.of_body Bd
  have e0 : s₁.heap = h0 := by rw [← hh, Bd.state]; rfl
  have N0 := Fr.nil n0
  obtain ⟨S0, hS0⟩ : ∃ z, z = s₁.setTop (entryFrame m #[(.ref a1), (.int (3 : Int32))] 2) := ⟨_, rfl⟩
  have pre0 : own_Go p e below S0 (s₁.setTop (mkF m 0 #[.val (.ref a1), .val (.int (3 : Int32))] [])) := fun t k => by rw [hS0]; exact castTop (ef_charAt_3_4 m a1) k
  have fin : ∀ t, Steps p.tables e below S0 t → Steps p.tables e below (s₁.setTop (entryFrame m #[(.ref a1), (.int (3 : Int32))] 2)) t := fun t k => by rw [hS0] at k; exact k
  obtain ⟨oE, oV, ⟨oK, oL, oA⟩ | ⟨oK, oL, oA⟩⟩ := hS
  · have oB : Arv Z h0 vb kb .byte (4 : Int32) [(.int (nar .byte (c0.toInt8.toInt32))), (.int (nar .byte (c1.toInt8.toInt32))), (.int (nar .byte (c2.toInt8.toInt32))), (.int (nar .byte (c3.toInt8.toInt32)))] (.int (0 : Int32)) := oA
    have pre1 : own_Go p e below S0 (s₁.setTop (mkF m 1 #[.val (.ref a1), .val (.int (3 : Int32))] [(.ref a1)])) := by
      intro t kt
      refine pre0 t ?_
      refine XS.aloadN X0.here hx rfl (hb hby d12_0) rfl rfl ?_
      show Steps p.tables e below (s₁.setTop (mkF m 1 #[.val (.ref a1), .val (.int (3 : Int32))] [(.ref a1)])) _
      exact kt
    obtain ⟨cq2, kq2, qa2, qb2, qc2⟩ := isOf hZ e0 oE
    obtain ⟨_, _, ⟨T2, L2, k2, n2⟩, -, X2, ⟨Lc2, hQ2, l2, y2, z2⟩, st2⟩ := X0.virtualBack hx (y := (⟨"java/lang/String", "isLatin1", "()Z"⟩ : MethodName)) (z := (⟨"java/lang/String", "isLatin1", "()Z"⟩ : MethodName)) hown (mvT hZ (hw _ (own_w 72 rfl))) (mvT hZ (hw _ (own_w 73 rfl))) (notFace_of_selects (args := #[]) (mvT hZ (hw _ (own_w 75 rfl)))) (mvT hZ (hw _ (own_w 75 rfl))) (mvT hZ (hw _ (own_w 74 rfl))) (by decide) (backOf (W := 0) (rmisLat0 l Z a0 hw [] a1 wC h0 n0 Z0 O0 SC hC oK) hZ (hw _ (own_w 76 rfl)) (hw _ (own_w 31 rfl)) (by decide) (by decide)) qa2 qc2 (g := (mkF m 1 #[.val (.ref a1), .val (.int (3 : Int32))] [(.ref a1)])) rfl (by rw [hml]; rfl) (Steps.refl _) (argsL := []) (rest := []) (lenOf pd_13 rfl) rfl (by show 2 * 0 + _ ≤ _; exact Nat.le_of_eq rfl) (hb hby d12_1) (fun _ _ => ⟨rfl, e0, (by decide : 0 + 0 ≤ _), (by decide : 0 + 0 ≤ _)⟩)
    dsimp only [Pt.U, Pt.locs, Pt.cells, Pt.slots] at X2 l2 y2 z2 st2 hQ2
    subst l2 y2 z2
    obtain ⟨rfl, Nq2, eq2⟩ := hQ2
    have N2 := Fr.app N0 Nq2
    have pre3 : own_Go p e below S0 (T2.setTop (mkF m 8 #[.val (.ref a1), .val (.int (3 : Int32))] [(.ref a1)])) := by
      intro t kt
      refine pre1 t ?_
      refine st2.trans ?_
      show Steps p.tables e below (T2.setTop (mkF m 4 #[.val (.ref a1), .val (.int (3 : Int32))] [(.int (1 : Int32))])) _
      refine XS.ifNo X2.here hx rfl (hb hby d12_4) rfl ((if0 _ _).trans (feq (by decide : ¬ ((1 : Int32) = (0 : Int32)))).1) ?_
      show Steps p.tables e below (T2.setTop (mkF m 7 #[.val (.ref a1), .val (.int (3 : Int32))] [])) _
      refine XS.aloadN X2.here hx rfl (hb hby d12_7) rfl rfl ?_
      show Steps p.tables e below (T2.setTop (mkF m 8 #[.val (.ref a1), .val (.int (3 : Int32))] [(.ref a1)])) _
      exact kt
    obtain ⟨T4, X4, e4, st4⟩ := getF X2 hx hZ hown (host := "") (Or.inl (hw _ (own_w 55 rfl))) Via.refl eq2 oV (g := (mkF m 8 #[.val (.ref a1), .val (.int (3 : Int32))] [(.ref a1)])) rfl rfl (hb hby d12_8)
    have pre5 : own_Go p e below S0 (T4.setTop (mkF m 12 #[.val (.ref a1), .val (.int (3 : Int32))] [(.int (3 : Int32)), (.ref vb)])) := by
      intro t kt
      refine pre3 t ?_
      refine st4 _ ?_
      show Steps p.tables e below (T4.setTop (mkF m 11 #[.val (.ref a1), .val (.int (3 : Int32))] [(.ref vb)])) _
      refine XS.iloadN X4.here hx rfl (hb hby d12_11) rfl ?_
      show Steps p.tables e below (T4.setTop (mkF m 12 #[.val (.ref a1), .val (.int (3 : Int32))] [(.int (3 : Int32)), (.ref vb)])) _
      exact kt
    obtain ⟨_, _, ⟨T6, L6, k6, n6⟩, -, X6, ⟨Lc6, hQ6, l6, y6, z6⟩, st6⟩ := Jvm.LawKit.callS X4 hx (y := (⟨"java/lang/StringLatin1", "charAt", "([BI)C"⟩ : MethodName)) hown (mvT hZ (hw _ (own_w 77 rfl))) (mvT hZ (hw _ (own_w 78 rfl))) (mvT hZ (hw _ (own_w 79 rfl))) (mvT hZ (hw _ (own_w 80 rfl))) (by decide) (backOf (W := 0) (rml1at l Z a0 hw [] vb (3 : Int32) wF kb (4 : Int32) [(.int (nar .byte (c0.toInt8.toInt32))), (.int (nar .byte (c1.toInt8.toInt32))), (.int (nar .byte (c2.toInt8.toInt32))), (.int (nar .byte (c3.toInt8.toInt32)))] (.int (0 : Int32)) (nar .byte (c3.toInt8.toInt32)) h0 n0 Z0 O0 SF hF oB (by decide) (by decide) rfl) hZ (hw _ (own_w 80 rfl)) (hw _ (own_w 79 rfl)) (by decide) (by decide)) (g := (mkF m 12 #[.val (.ref a1), .val (.int (3 : Int32))] [(.int (3 : Int32)), (.ref vb)])) rfl (by rw [hml]; rfl) (argsL := [(.ref vb), (.int (3 : Int32))]) (rest := []) (lenOf pd_5 rfl) rfl (by show 2 * 0 + _ ≤ _; exact Nat.le_of_eq rfl) (hb hby d12_12) (fun _ _ => ⟨rfl, e4, (by decide : 0 + 0 ≤ _), (by decide : 0 + 0 ≤ _)⟩)
    dsimp only [Pt.U, Pt.locs, Pt.cells, Pt.slots] at X6 l6 y6 z6 st6 hQ6
    subst l6 y6 z6
    obtain ⟨rfl, Nq6, eq6⟩ := hQ6
    have N6 := Fr.app N2 Nq6
    have pre7 : own_Go p e below S0 (T6.setTop (mkF m 15 #[.val (.ref a1), .val (.int (3 : Int32))] [(.int (own_lc (nar .byte (c3.toInt8.toInt32))))])) := by
      intro t kt
      refine pre5 t ?_
      refine st6 _ ?_
      show Steps p.tables e below (T6.setTop (mkF m 15 #[.val (.ref a1), .val (.int (3 : Int32))] [(.int (own_lc (nar .byte (c3.toInt8.toInt32))))])) _
      exact kt
    obtain ⟨fs, hr, hrun, hended, hW, hsame⟩ := X6.leave (v := some (.int (nar .char (own_lc (nar .byte (c3.toInt8.toInt32)))))) (fun h => by rw [Bd.returns] at h; cases h)
    refine ⟨_, _, fin _ (pre7 _ ?_), hrun, hended, _, _, rfl, ?_, ⟨_, rfl⟩, hW, hsame.mono (by decide) (by decide)⟩
    · exact retN X6 hx (t := .char) Bd.returns (by simp) (hb hby d12_15) hr
    · show QcharAt_3_4 Z a1 wC wF vb kb c0 c1 c2 c3 h0 n0 _ T6.heap _
      rw [eq6]
      exact ⟨(by show some (Value.int (nar .char _)) = _; rw [own_latget c3 oL.2.2.2.1, own_narChar c3 oL.2.2.2.1.1 (by have q := oL.2.2.2.1; omega)]), N6, rfl⟩
  · have oB : Arv Z h0 vb kb .byte (8 : Int32) [(.int (nar .byte ((c0 >>> ((0 : Int32) &&& 31)).toInt8.toInt32))), (.int (nar .byte ((c0 >>> ((8 : Int32) &&& 31)).toInt8.toInt32))), (.int (nar .byte ((c1 >>> ((0 : Int32) &&& 31)).toInt8.toInt32))), (.int (nar .byte ((c1 >>> ((8 : Int32) &&& 31)).toInt8.toInt32))), (.int (nar .byte ((c2 >>> ((0 : Int32) &&& 31)).toInt8.toInt32))), (.int (nar .byte ((c2 >>> ((8 : Int32) &&& 31)).toInt8.toInt32))), (.int (nar .byte ((c3 >>> ((0 : Int32) &&& 31)).toInt8.toInt32))), (.int (nar .byte ((c3 >>> ((8 : Int32) &&& 31)).toInt8.toInt32)))] (.int (0 : Int32)) := oA
    have pre8 : own_Go p e below S0 (s₁.setTop (mkF m 1 #[.val (.ref a1), .val (.int (3 : Int32))] [(.ref a1)])) := by
      intro t kt
      refine pre0 t ?_
      refine XS.aloadN X0.here hx rfl (hb hby d12_0) rfl rfl ?_
      show Steps p.tables e below (s₁.setTop (mkF m 1 #[.val (.ref a1), .val (.int (3 : Int32))] [(.ref a1)])) _
      exact kt
    obtain ⟨cq9, kq9, qa9, qb9, qc9⟩ := isOf hZ e0 oE
    obtain ⟨_, _, ⟨T9, L9, k9, n9⟩, -, X9, ⟨Lc9, hQ9, l9, y9, z9⟩, st9⟩ := X0.virtualBack hx (y := (⟨"java/lang/String", "isLatin1", "()Z"⟩ : MethodName)) (z := (⟨"java/lang/String", "isLatin1", "()Z"⟩ : MethodName)) hown (mvT hZ (hw _ (own_w 72 rfl))) (mvT hZ (hw _ (own_w 73 rfl))) (notFace_of_selects (args := #[]) (mvT hZ (hw _ (own_w 75 rfl)))) (mvT hZ (hw _ (own_w 75 rfl))) (mvT hZ (hw _ (own_w 74 rfl))) (by decide) (backOf (W := 0) (rmisLat1 l Z a0 hw [] a1 wC h0 n0 Z0 O0 SC hC oK) hZ (hw _ (own_w 76 rfl)) (hw _ (own_w 31 rfl)) (by decide) (by decide)) qa9 qc9 (g := (mkF m 1 #[.val (.ref a1), .val (.int (3 : Int32))] [(.ref a1)])) rfl (by rw [hml]; rfl) (Steps.refl _) (argsL := []) (rest := []) (lenOf pd_13 rfl) rfl (by show 2 * 0 + _ ≤ _; exact Nat.le_of_eq rfl) (hb hby d12_1) (fun _ _ => ⟨rfl, e0, (by decide : 0 + 0 ≤ _), (by decide : 0 + 0 ≤ _)⟩)
    dsimp only [Pt.U, Pt.locs, Pt.cells, Pt.slots] at X9 l9 y9 z9 st9 hQ9
    subst l9 y9 z9
    obtain ⟨rfl, Nq9, eq9⟩ := hQ9
    have N9 := Fr.app N0 Nq9
    have pre10 : own_Go p e below S0 (T9.setTop (mkF m 17 #[.val (.ref a1), .val (.int (3 : Int32))] [(.ref a1)])) := by
      intro t kt
      refine pre8 t ?_
      refine st9.trans ?_
      show Steps p.tables e below (T9.setTop (mkF m 4 #[.val (.ref a1), .val (.int (3 : Int32))] [(.int (0 : Int32))])) _
      refine XS.ifYes X9.here hx rfl (pc0 := 4) (pc' := 16) rfl (hb hby d12_4) rfl ((if0 _ _).trans (teq (by decide : (0 : Int32) = (0 : Int32))).1) (by decide) (by decide) ?_
      show Steps p.tables e below (T9.setTop (mkF m 16 #[.val (.ref a1), .val (.int (3 : Int32))] [])) _
      refine XS.aloadN X9.here hx rfl (hb hby d12_16) rfl rfl ?_
      show Steps p.tables e below (T9.setTop (mkF m 17 #[.val (.ref a1), .val (.int (3 : Int32))] [(.ref a1)])) _
      exact kt
    obtain ⟨T11, X11, e11, st11⟩ := getF X9 hx hZ hown (host := "") (Or.inl (hw _ (own_w 55 rfl))) Via.refl eq9 oV (g := (mkF m 17 #[.val (.ref a1), .val (.int (3 : Int32))] [(.ref a1)])) rfl rfl (hb hby d12_17)
    have pre12 : own_Go p e below S0 (T11.setTop (mkF m 21 #[.val (.ref a1), .val (.int (3 : Int32))] [(.int (3 : Int32)), (.ref vb)])) := by
      intro t kt
      refine pre10 t ?_
      refine st11 _ ?_
      show Steps p.tables e below (T11.setTop (mkF m 20 #[.val (.ref a1), .val (.int (3 : Int32))] [(.ref vb)])) _
      refine XS.iloadN X11.here hx rfl (hb hby d12_20) rfl ?_
      show Steps p.tables e below (T11.setTop (mkF m 21 #[.val (.ref a1), .val (.int (3 : Int32))] [(.int (3 : Int32)), (.ref vb)])) _
      exact kt
    obtain ⟨_, _, ⟨T13, L13, k13, n13⟩, -, X13, ⟨Lc13, hQ13, l13, y13, z13⟩, st13⟩ := Jvm.LawKit.callS X11 hx (y := (⟨"java/lang/StringUTF16", "charAt", "([BI)C"⟩ : MethodName)) hown (mvT hZ (hw _ (own_w 108 rfl))) (mvT hZ (hw _ (own_w 109 rfl))) (mvT hZ (hw _ (own_w 44 rfl))) (mvT hZ (hw _ (own_w 110 rfl))) (by decide) (backOf (W := 0) (rmu16at_3_8 l Z a0 hw [] vb wF kb (nar .byte ((c3 >>> ((0 : Int32) &&& 31)).toInt8.toInt32)) (nar .byte ((c3 >>> ((8 : Int32) &&& 31)).toInt8.toInt32)) (.int (nar .byte ((c0 >>> ((0 : Int32) &&& 31)).toInt8.toInt32))) (.int (nar .byte ((c0 >>> ((8 : Int32) &&& 31)).toInt8.toInt32))) (.int (nar .byte ((c1 >>> ((0 : Int32) &&& 31)).toInt8.toInt32))) (.int (nar .byte ((c1 >>> ((8 : Int32) &&& 31)).toInt8.toInt32))) (.int (nar .byte ((c2 >>> ((0 : Int32) &&& 31)).toInt8.toInt32))) (.int (nar .byte ((c2 >>> ((8 : Int32) &&& 31)).toInt8.toInt32))) h0 n0 Z0 O0 SA SH SL SF hF oB) hZ (hw _ (own_w 110 rfl)) (hw _ (own_w 44 rfl)) (by decide) (by decide)) (g := (mkF m 21 #[.val (.ref a1), .val (.int (3 : Int32))] [(.int (3 : Int32)), (.ref vb)])) rfl (by rw [hml]; rfl) (argsL := [(.ref vb), (.int (3 : Int32))]) (rest := []) (lenOf pd_5 rfl) rfl (by show 2 * 0 + _ ≤ _; exact Nat.le_of_eq rfl) (hb hby d12_21) (fun _ _ => ⟨rfl, e11, (by decide : 0 + 0 ≤ _), (by decide : 0 + 0 ≤ _)⟩)
    dsimp only [Pt.U, Pt.locs, Pt.cells, Pt.slots] at X13 l13 y13 z13 st13 hQ13
    subst l13 y13 z13
    obtain ⟨rfl, Nq13, eq13⟩ := hQ13
    have N13 := Fr.app N9 Nq13
    have pre14 : own_Go p e below S0 (T13.setTop (mkF m 24 #[.val (.ref a1), .val (.int (3 : Int32))] [(.int (own_gc (nar .byte ((c3 >>> ((0 : Int32) &&& 31)).toInt8.toInt32)) (nar .byte ((c3 >>> ((8 : Int32) &&& 31)).toInt8.toInt32))))])) := by
      intro t kt
      refine pre12 t ?_
      refine st13 _ ?_
      show Steps p.tables e below (T13.setTop (mkF m 24 #[.val (.ref a1), .val (.int (3 : Int32))] [(.int (own_gc (nar .byte ((c3 >>> ((0 : Int32) &&& 31)).toInt8.toInt32)) (nar .byte ((c3 >>> ((8 : Int32) &&& 31)).toInt8.toInt32))))])) _
      exact kt
    obtain ⟨fs, hr, hrun, hended, hW, hsame⟩ := X13.leave (v := some (.int (nar .char (own_gc (nar .byte ((c3 >>> ((0 : Int32) &&& 31)).toInt8.toInt32)) (nar .byte ((c3 >>> ((8 : Int32) &&& 31)).toInt8.toInt32)))))) (fun h => by rw [Bd.returns] at h; cases h)
    refine ⟨_, _, fin _ (pre14 _ ?_), hrun, hended, _, _, rfl, ?_, ⟨_, rfl⟩, hW, hsame.mono (by decide) (by decide)⟩
    · exact retN X13 hx (t := .char) Bd.returns (by simp) (hb hby d12_24) hr
    · show QcharAt_3_4 Z a1 wC wF vb kb c0 c1 c2 c3 h0 n0 _ T13.heap _
      rw [eq13]
      exact ⟨(by show some (Value.int (nar .char _)) = _; rw [own_utfget c3 oL.2.2.2.1, own_narChar c3 oL.2.2.2.1.1 (by have q := oL.2.2.2.1; omega)]), N13, rfl⟩

theorem d2_0 : decode jdk_30_method_1_code 0 = .ok (.aload_n 0, 1) := by decide +kernel
theorem d2_1 : decode jdk_30_method_1_code 1 = .ok (.invokespecial 1, 3) := by decide +kernel
theorem d2_4 : decode jdk_30_method_1_code 4 = .ok (.return_, 1) := by decide +kernel
theorem pn_2 : plainName "java/lang/Record" = true := by first | (simp [plainName, overriddenIn]; done) | decide +kernel
theorem ef_2 (m : MethodId) (x0 : Addr) : entryFrame m #[(.ref x0)] 1 = mkF m 0 #[.val (.ref x0)] [] := by first | (simp [entryFrame, mkF, argsToLocals, Value.category]; done) | rfl
def Q2 (Z : State) (a1 : Addr) (h0 : Heap) (n0 : Nat) (v : Option Value) (h : Heap) (L : List Loc) : Prop := v = none ∧ Fr n0 L ∧ h = h0
set_option maxRecDepth 65536 in
set_option maxHeartbeats 40000000 in
theorem rm2 (l : Launch) (Z : State) (a0 : Array Value) (hw : ∀ d ∈ tables_1, d.before a0 Z = true) (ws : List Jvm.Cond) (a1 : Addr) (h0 : Heap) (n0 : Nat) (Z0 : n0 ≤ h0.size) :
    MetFree l (⟨"java/lang/Record", "<init>", "()V"⟩ : MethodName) (head1 (Jvm.Cond.code (⟨"java/lang/Record", "<init>", "()V"⟩ : MethodName) jdk_30_method_1_code 1 none :: ws) ({ frames := 1, cells := 0, slots := 0, locals := 12 } : Room)) (fun a U => a = #[(.ref a1)] ∧ Z.Warmed39 U.vm ∧ U.heap = h0) (fun _ _ _ _ _ => True) (fun _ U o U' => ∃ v L, o = .returned v ∧ Q2 Z a1 h0 n0 v U'.heap L ∧ FrameEnd U o U' L ({ frames := 1, cells := 0, slots := 0, locals := 12 } : Room).cells ({ frames := 1, cells := 0, slots := 0, locals := 12 } : Room).slots) := by
  refine MetFree.of_bodySF (plainFor_of_name pn_2) hisR ?_
  intro p e s m args below meth c s₁ Bd hml0 hP hK
  obtain ⟨rfl, hZ, hh⟩ := hP
  have hx := Bd.exec
  have hby := Bd.bytes
  have hml : c.maxLocals = 1 := hml0
  have hown0 := findClass_of_methodNamed Bd.named
  have hown : s.vm.findClass "java/lang/Record" = some m.cls := hown0
  have hnm := (name_of_methodNamed Bd.named Bd.method).1
  have X0 : Stand p l e ({ frames := 1, cells := 0, slots := 0, locals := 12 } : Room) s m #[(.ref a1)] below meth c s₁ [] 0 0 := Stand.of_body Bd
  have e0 : s₁.heap = h0 := by rw [← hh, Bd.state]; rfl
  have N0 := Fr.nil n0
  obtain ⟨S0, hS0⟩ : ∃ z, z = s₁.setTop (entryFrame m #[(.ref a1)] 1) := ⟨_, rfl⟩
  have pre0 : own_Go p e below S0 (s₁.setTop (mkF m 0 #[.val (.ref a1)] [])) := fun t k => by rw [hS0]; exact castTop (ef_2 m a1) k
  have fin : ∀ t, Steps p.tables e below S0 t → Steps p.tables e below (s₁.setTop (entryFrame m #[(.ref a1)] 1)) t := fun t k => by rw [hS0] at k; exact k
  have pre1 : own_Go p e below S0 (s₁.setTop (mkF m 1 #[.val (.ref a1)] [(.ref a1)])) := by
    intro t kt
    refine pre0 t ?_
    refine XS.aloadN X0.here hx rfl (hb hby d2_0) rfl rfl ?_
    show Steps p.tables e below (s₁.setTop (mkF m 1 #[.val (.ref a1)] [(.ref a1)])) _
    exact kt
  obtain ⟨T2, X2, e2, st2⟩ := initO X0 hx hZ hown (hw _ (own_w 11 rfl)) (hw _ (own_w 12 rfl)) (hw _ (own_w 13 rfl)) e0 (g := (mkF m 1 #[.val (.ref a1)] [(.ref a1)])) rfl (by rw [hml]; rfl) rfl (hb hby d2_1) (by decide) (W := 0) (by show 2 * 0 + _ ≤ _; exact Nat.le_of_eq rfl) (by decide)
  have pre3 : own_Go p e below S0 (T2.setTop (mkF m 4 #[.val (.ref a1)] [])) := by
    intro t kt
    refine pre1 t ?_
    refine st2 _ ?_
    show Steps p.tables e below (T2.setTop (mkF m 4 #[.val (.ref a1)] [])) _
    exact kt
  obtain ⟨fs, hr, hrun, hended, hW, hsame⟩ := X2.leave (v := none) (fun _ => rfl)
  refine ⟨_, _, fin _ (pre3 _ ?_), hrun, hended, _, _, rfl, ?_, ⟨_, rfl⟩, hW, hsame.mono (by decide) (by decide)⟩
  · exact X2.returnOut hx Bd.returns (hb hby d2_4) hr
  · show Q2 Z a1 h0 n0 _ T2.heap _
    rw [e2]
    exact ⟨rfl, N0, rfl⟩

theorem d1_0 : decode prog_49_method_1_code 0 = .ok (.aload_n 0, 1) := by decide +kernel
theorem d1_1 : decode prog_49_method_1_code 1 = .ok (.invokespecial 1, 3) := by decide +kernel
theorem d1_4 : decode prog_49_method_1_code 4 = .ok (.aload_n 0, 1) := by decide +kernel
theorem d1_5 : decode prog_49_method_1_code 5 = .ok (.iload_n 1, 1) := by decide +kernel
theorem d1_6 : decode prog_49_method_1_code 6 = .ok (.putfield 7, 3) := by decide +kernel
theorem d1_9 : decode prog_49_method_1_code 9 = .ok (.aload_n 0, 1) := by decide +kernel
theorem d1_10 : decode prog_49_method_1_code 10 = .ok (.iload_n 2, 1) := by decide +kernel
theorem d1_11 : decode prog_49_method_1_code 11 = .ok (.putfield 13, 3) := by decide +kernel
theorem d1_14 : decode prog_49_method_1_code 14 = .ok (.aload_n 0, 1) := by decide +kernel
theorem d1_15 : decode prog_49_method_1_code 15 = .ok (.iload_n 3, 1) := by decide +kernel
theorem d1_16 : decode prog_49_method_1_code 16 = .ok (.putfield 16, 3) := by decide +kernel
theorem d1_19 : decode prog_49_method_1_code 19 = .ok (.aload_n 0, 1) := by decide +kernel
theorem d1_20 : decode prog_49_method_1_code 20 = .ok (.iload 4, 2) := by decide +kernel
theorem d1_22 : decode prog_49_method_1_code 22 = .ok (.putfield 19, 3) := by decide +kernel
theorem d1_25 : decode prog_49_method_1_code 25 = .ok (.aload_n 0, 1) := by decide +kernel
theorem d1_26 : decode prog_49_method_1_code 26 = .ok (.iload 5, 2) := by decide +kernel
theorem d1_28 : decode prog_49_method_1_code 28 = .ok (.putfield 22, 3) := by decide +kernel
theorem d1_31 : decode prog_49_method_1_code 31 = .ok (.return_, 1) := by decide +kernel
theorem pn_1 : plainName "com/example/refertario/refertario/hl7/Delimiters" = true := by first | (simp [plainName, overriddenIn]; done) | decide +kernel
theorem pd_14 : parseMethodDescriptor "()V" = some ⟨[], none⟩ := by decide +kernel
theorem ef_1 (m : MethodId) (x0 : Addr) (x1 : Int32) (x2 : Int32) (x3 : Int32) (x4 : Int32) (x5 : Int32) : entryFrame m #[(.ref x0), (.int x1), (.int x2), (.int x3), (.int x4), (.int x5)] 6 = mkF m 0 #[.val (.ref x0), .val (.int x1), .val (.int x2), .val (.int x3), .val (.int x4), .val (.int x5)] [] := by first | (simp [entryFrame, mkF, argsToLocals, Value.category]; done) | rfl
def Q1 (Z : State) (a1 : Addr) (p2 : Int32) (p3 : Int32) (p4 : Int32) (p5 : Int32) (p6 : Int32) (h0 : Heap) (n0 : Nat) (v : Option Value) (h : Heap) (L : List Loc) : Prop := v = none ∧ Fr n0 L ∧ Keep h0 h [a1] ∧ Exa Z h a1 "com/example/refertario/refertario/hl7/Delimiters" ∧ Fld Z h a1 "com/example/refertario/refertario/hl7/Delimiters" "field" "C" (.int (nar .char p2)) ∧ Fld Z h a1 "com/example/refertario/refertario/hl7/Delimiters" "component" "C" (.int (nar .char p3)) ∧ Fld Z h a1 "com/example/refertario/refertario/hl7/Delimiters" "repetition" "C" (.int (nar .char p4)) ∧ Fld Z h a1 "com/example/refertario/refertario/hl7/Delimiters" "escape" "C" (.int (nar .char p5)) ∧ Fld Z h a1 "com/example/refertario/refertario/hl7/Delimiters" "subcomponent" "C" (.int (nar .char p6))
set_option maxRecDepth 65536 in
set_option maxHeartbeats 40000000 in
theorem rm1 (l : Launch) (Z : State) (a0 : Array Value) (hw : ∀ d ∈ tables_1, d.before a0 Z = true) (ws : List Jvm.Cond) (a1 : Addr) (p2 : Int32) (p3 : Int32) (p4 : Int32) (p5 : Int32) (p6 : Int32) (h0 : Heap) (n0 : Nat) (Z0 : n0 ≤ h0.size) (E1 : Exa Z h0 a1 "com/example/refertario/refertario/hl7/Delimiters") (F0 : Fld Z h0 a1 "com/example/refertario/refertario/hl7/Delimiters" "field" "C" (.int (0 : Int32))) (F1 : Fld Z h0 a1 "com/example/refertario/refertario/hl7/Delimiters" "component" "C" (.int (0 : Int32))) (F2 : Fld Z h0 a1 "com/example/refertario/refertario/hl7/Delimiters" "repetition" "C" (.int (0 : Int32))) (F3 : Fld Z h0 a1 "com/example/refertario/refertario/hl7/Delimiters" "escape" "C" (.int (0 : Int32))) (F4 : Fld Z h0 a1 "com/example/refertario/refertario/hl7/Delimiters" "subcomponent" "C" (.int (0 : Int32))) (g1 : n0 ≤ a1) :
    MetFree l (⟨"com/example/refertario/refertario/hl7/Delimiters", "<init>", "(CCCCC)V"⟩ : MethodName) (head1 (Jvm.Cond.code (⟨"com/example/refertario/refertario/hl7/Delimiters", "<init>", "(CCCCC)V"⟩ : MethodName) prog_49_method_1_code 6 none :: ws) ({ frames := 2, cells := 0, slots := 0, locals := 24 } : Room)) (fun a U => a = #[(.ref a1), (.int p2), (.int p3), (.int p4), (.int p5), (.int p6)] ∧ Z.Warmed39 U.vm ∧ U.heap = h0) (fun _ _ _ _ _ => True) (fun _ U o U' => ∃ v L, o = .returned v ∧ Q1 Z a1 p2 p3 p4 p5 p6 h0 n0 v U'.heap L ∧ FrameEnd U o U' L ({ frames := 2, cells := 0, slots := 0, locals := 24 } : Room).cells ({ frames := 2, cells := 0, slots := 0, locals := 24 } : Room).slots) := by
  refine MetFree.of_bodySF (plainFor_of_name pn_1) hisR ?_
  intro p e s m args below meth c s₁ Bd hml0 hP hK
  obtain ⟨rfl, hZ, hh⟩ := hP
  have hx := Bd.exec
  have hby := Bd.bytes
  have hml : c.maxLocals = 6 := hml0
  have hown0 := findClass_of_methodNamed Bd.named
  have hown : s.vm.findClass "com/example/refertario/refertario/hl7/Delimiters" = some m.cls := hown0
  have hnm := (name_of_methodNamed Bd.named Bd.method).1
  have X0 : Stand p l e ({ frames := 2, cells := 0, slots := 0, locals := 24 } : Room) s m #[(.ref a1), (.int p2), (.int p3), (.int p4), (.int p5), (.int p6)] below meth c s₁ [] 0 0 := Stand.of_body Bd
  have e0 : s₁.heap = h0 := by rw [← hh, Bd.state]; rfl
  have N0 := Fr.nil n0
  obtain ⟨S0, hS0⟩ : ∃ z, z = s₁.setTop (entryFrame m #[(.ref a1), (.int p2), (.int p3), (.int p4), (.int p5), (.int p6)] 6) := ⟨_, rfl⟩
  have pre0 : own_Go p e below S0 (s₁.setTop (mkF m 0 #[.val (.ref a1), .val (.int p2), .val (.int p3), .val (.int p4), .val (.int p5), .val (.int p6)] [])) := fun t k => by rw [hS0]; exact castTop (ef_1 m a1 p2 p3 p4 p5 p6) k
  have fin : ∀ t, Steps p.tables e below S0 t → Steps p.tables e below (s₁.setTop (entryFrame m #[(.ref a1), (.int p2), (.int p3), (.int p4), (.int p5), (.int p6)] 6)) t := fun t k => by rw [hS0] at k; exact k
  have kc0 : Keep h0 h0 [a1] := Keep.refl _ _
  have pre1 : own_Go p e below S0 (s₁.setTop (mkF m 1 #[.val (.ref a1), .val (.int p2), .val (.int p3), .val (.int p4), .val (.int p5), .val (.int p6)] [(.ref a1)])) := by
    intro t kt
    refine pre0 t ?_
    refine XS.aloadN X0.here hx rfl (hb hby d1_0) rfl rfl ?_
    show Steps p.tables e below (s₁.setTop (mkF m 1 #[.val (.ref a1), .val (.int p2), .val (.int p3), .val (.int p4), .val (.int p5), .val (.int p6)] [(.ref a1)])) _
    exact kt
  obtain ⟨_, _, ⟨T2, L2, k2, n2⟩, -, X2, ⟨Lc2, hQ2, l2, y2, z2⟩, st2⟩ := X0.specialBack hx (y := (⟨"java/lang/Record", "<init>", "()V"⟩ : MethodName)) rfl hown (mvT hZ (hw _ (own_w 6 rfl))) (mvT hZ (hw _ (own_w 7 rfl))) (mvT hZ (hw _ (own_w 10 rfl))) (by decide) (backOf (W := 0) (rm2 l Z a0 hw [] a1 h0 n0 Z0 ) hZ (hw _ (own_w 10 rfl)) (hw _ (own_w 9 rfl)) (by decide) (by decide)) (g := (mkF m 1 #[.val (.ref a1), .val (.int p2), .val (.int p3), .val (.int p4), .val (.int p5), .val (.int p6)] [(.ref a1)])) rfl (by rw [hml]; rfl) (Steps.refl _) (a := a1) (argsL := []) (rest := []) (lenOf pd_14 rfl) rfl (by show 2 * 0 + _ ≤ _; exact Nat.le_of_eq rfl) (hb hby d1_1) (fun _ _ => ⟨rfl, e0, (by decide : 0 + 0 ≤ _), (by decide : 0 + 0 ≤ _)⟩)
  dsimp only [Pt.U, Pt.locs, Pt.cells, Pt.slots] at X2 l2 y2 z2 st2 hQ2
  subst l2 y2 z2
  obtain ⟨rfl, Nq2, eq2⟩ := hQ2
  have N2 := Fr.app N0 Nq2
  have pre3 : own_Go p e below S0 (T2.setTop (mkF m 6 #[.val (.ref a1), .val (.int p2), .val (.int p3), .val (.int p4), .val (.int p5), .val (.int p6)] [(.int p2), (.ref a1)])) := by
    intro t kt
    refine pre1 t ?_
    refine st2.trans ?_
    show Steps p.tables e below (T2.setTop (mkF m 4 #[.val (.ref a1), .val (.int p2), .val (.int p3), .val (.int p4), .val (.int p5), .val (.int p6)] [])) _
    refine XS.aloadN X2.here hx rfl (hb hby d1_4) rfl rfl ?_
    show Steps p.tables e below (T2.setTop (mkF m 5 #[.val (.ref a1), .val (.int p2), .val (.int p3), .val (.int p4), .val (.int p5), .val (.int p6)] [(.ref a1)])) _
    refine XS.iloadN X2.here hx rfl (hb hby d1_5) rfl ?_
    show Steps p.tables e below (T2.setTop (mkF m 6 #[.val (.ref a1), .val (.int p2), .val (.int p3), .val (.int p4), .val (.int p5), .val (.int p6)] [(.int p2), (.ref a1)])) _
    exact kt
  obtain ⟨T4, h4, X4, e4, W4, st4⟩ := putFN X2 hx hZ hown (hw _ (own_w 14 rfl)) Via.refl eq2 F0 E1 (Or.inr ⟨(hw _ (own_w 15 rfl)), rfl, hnm⟩) (hw _ (own_w 1 rfl)) (ty := .char) (v' := (.int (nar .char p2))) (by decide) rfl (fits_nar_char _) (g := (mkF m 6 #[.val (.ref a1), .val (.int p2), .val (.int p3), .val (.int p4), .val (.int p5), .val (.int p6)] [(.int p2), (.ref a1)])) rfl rfl (hb hby d1_6)
  have N4 := Fr.snoc X4 N2 g1
  have zs5 : n0 ≤ h4.size := Nat.le_trans Z0 (Keep.of_wr W4).1
  have kc6 : Keep h0 h4 [a1] := kc0.wr W4 (Or.inl (List.mem_of_getElem? (i := 0) rfl))
  have fw4 : Fld Z h4 a1 "com/example/refertario/refertario/hl7/Delimiters" "field" "C" (.int (nar .char p2)) := F0.same W4
  have pre7 : own_Go p e below S0 (T4.setTop (mkF m 11 #[.val (.ref a1), .val (.int p2), .val (.int p3), .val (.int p4), .val (.int p5), .val (.int p6)] [(.int p3), (.ref a1)])) := by
    intro t kt
    refine pre3 t ?_
    refine st4 _ ?_
    show Steps p.tables e below (T4.setTop (mkF m 9 #[.val (.ref a1), .val (.int p2), .val (.int p3), .val (.int p4), .val (.int p5), .val (.int p6)] [])) _
    refine XS.aloadN X4.here hx rfl (hb hby d1_9) rfl rfl ?_
    show Steps p.tables e below (T4.setTop (mkF m 10 #[.val (.ref a1), .val (.int p2), .val (.int p3), .val (.int p4), .val (.int p5), .val (.int p6)] [(.ref a1)])) _
    refine XS.iloadN X4.here hx rfl (hb hby d1_10) rfl ?_
    show Steps p.tables e below (T4.setTop (mkF m 11 #[.val (.ref a1), .val (.int p2), .val (.int p3), .val (.int p4), .val (.int p5), .val (.int p6)] [(.int p3), (.ref a1)])) _
    exact kt
  have f8 : Fld Z h4 a1 "com/example/refertario/refertario/hl7/Delimiters" "component" "C" (.int (0 : Int32)) := (F1.other W4 (Or.inr (slot_ne (Or.inr (hw _ (own_w 17 rfl))) (Or.inr (hw _ (own_w 15 rfl))) (by decide) (t := .char) (t' := .char) (by decide) (by decide))))
  have f9 : Exa Z h4 a1 "com/example/refertario/refertario/hl7/Delimiters" := (E1.wr W4)
  obtain ⟨T10, h10, X10, e10, W10, st10⟩ := putFN X4 hx hZ hown (hw _ (own_w 16 rfl)) Via.refl e4 f8 f9 (Or.inr ⟨(hw _ (own_w 17 rfl)), rfl, hnm⟩) (hw _ (own_w 1 rfl)) (ty := .char) (v' := (.int (nar .char p3))) (by decide) rfl (fits_nar_char _) (g := (mkF m 11 #[.val (.ref a1), .val (.int p2), .val (.int p3), .val (.int p4), .val (.int p5), .val (.int p6)] [(.int p3), (.ref a1)])) rfl rfl (hb hby d1_11)
  have N10 := Fr.snoc X10 N4 g1
  have zs11 : n0 ≤ h10.size := Nat.le_trans zs5 (Keep.of_wr W10).1
  have kc12 : Keep h0 h10 [a1] := kc6.wr W10 (Or.inl (List.mem_of_getElem? (i := 0) rfl))
  have fw10 : Fld Z h10 a1 "com/example/refertario/refertario/hl7/Delimiters" "component" "C" (.int (nar .char p3)) := f8.same W10
  have pre13 : own_Go p e below S0 (T10.setTop (mkF m 16 #[.val (.ref a1), .val (.int p2), .val (.int p3), .val (.int p4), .val (.int p5), .val (.int p6)] [(.int p4), (.ref a1)])) := by
    intro t kt
    refine pre7 t ?_
    refine st10 _ ?_
    show Steps p.tables e below (T10.setTop (mkF m 14 #[.val (.ref a1), .val (.int p2), .val (.int p3), .val (.int p4), .val (.int p5), .val (.int p6)] [])) _
    refine XS.aloadN X10.here hx rfl (hb hby d1_14) rfl rfl ?_
    show Steps p.tables e below (T10.setTop (mkF m 15 #[.val (.ref a1), .val (.int p2), .val (.int p3), .val (.int p4), .val (.int p5), .val (.int p6)] [(.ref a1)])) _
    refine XS.iloadN X10.here hx rfl (hb hby d1_15) rfl ?_
    show Steps p.tables e below (T10.setTop (mkF m 16 #[.val (.ref a1), .val (.int p2), .val (.int p3), .val (.int p4), .val (.int p5), .val (.int p6)] [(.int p4), (.ref a1)])) _
    exact kt
  have f14 : Fld Z h10 a1 "com/example/refertario/refertario/hl7/Delimiters" "repetition" "C" (.int (0 : Int32)) := ((F2.other W4 (Or.inr (slot_ne (Or.inr (hw _ (own_w 19 rfl))) (Or.inr (hw _ (own_w 15 rfl))) (by decide) (t := .char) (t' := .char) (by decide) (by decide)))).other W10 (Or.inr (slot_ne (Or.inr (hw _ (own_w 19 rfl))) (Or.inr (hw _ (own_w 17 rfl))) (by decide) (t := .char) (t' := .char) (by decide) (by decide))))
  have f15 : Exa Z h10 a1 "com/example/refertario/refertario/hl7/Delimiters" := (f9.wr W10)
  obtain ⟨T16, h16, X16, e16, W16, st16⟩ := putFN X10 hx hZ hown (hw _ (own_w 18 rfl)) Via.refl e10 f14 f15 (Or.inr ⟨(hw _ (own_w 19 rfl)), rfl, hnm⟩) (hw _ (own_w 1 rfl)) (ty := .char) (v' := (.int (nar .char p4))) (by decide) rfl (fits_nar_char _) (g := (mkF m 16 #[.val (.ref a1), .val (.int p2), .val (.int p3), .val (.int p4), .val (.int p5), .val (.int p6)] [(.int p4), (.ref a1)])) rfl rfl (hb hby d1_16)
  have N16 := Fr.snoc X16 N10 g1
  have zs17 : n0 ≤ h16.size := Nat.le_trans zs11 (Keep.of_wr W16).1
  have kc18 : Keep h0 h16 [a1] := kc12.wr W16 (Or.inl (List.mem_of_getElem? (i := 0) rfl))
  have fw16 : Fld Z h16 a1 "com/example/refertario/refertario/hl7/Delimiters" "repetition" "C" (.int (nar .char p4)) := f14.same W16
  have pre19 : own_Go p e below S0 (T16.setTop (mkF m 22 #[.val (.ref a1), .val (.int p2), .val (.int p3), .val (.int p4), .val (.int p5), .val (.int p6)] [(.int p5), (.ref a1)])) := by
    intro t kt
    refine pre13 t ?_
    refine st16 _ ?_
    show Steps p.tables e below (T16.setTop (mkF m 19 #[.val (.ref a1), .val (.int p2), .val (.int p3), .val (.int p4), .val (.int p5), .val (.int p6)] [])) _
    refine XS.aloadN X16.here hx rfl (hb hby d1_19) rfl rfl ?_
    show Steps p.tables e below (T16.setTop (mkF m 20 #[.val (.ref a1), .val (.int p2), .val (.int p3), .val (.int p4), .val (.int p5), .val (.int p6)] [(.ref a1)])) _
    refine XS.iload X16.here hx rfl (hb hby d1_20) rfl ?_
    show Steps p.tables e below (T16.setTop (mkF m 22 #[.val (.ref a1), .val (.int p2), .val (.int p3), .val (.int p4), .val (.int p5), .val (.int p6)] [(.int p5), (.ref a1)])) _
    exact kt
  have f20 : Fld Z h16 a1 "com/example/refertario/refertario/hl7/Delimiters" "escape" "C" (.int (0 : Int32)) := (((F3.other W4 (Or.inr (slot_ne (Or.inr (hw _ (own_w 21 rfl))) (Or.inr (hw _ (own_w 15 rfl))) (by decide) (t := .char) (t' := .char) (by decide) (by decide)))).other W10 (Or.inr (slot_ne (Or.inr (hw _ (own_w 21 rfl))) (Or.inr (hw _ (own_w 17 rfl))) (by decide) (t := .char) (t' := .char) (by decide) (by decide)))).other W16 (Or.inr (slot_ne (Or.inr (hw _ (own_w 21 rfl))) (Or.inr (hw _ (own_w 19 rfl))) (by decide) (t := .char) (t' := .char) (by decide) (by decide))))
  have f21 : Exa Z h16 a1 "com/example/refertario/refertario/hl7/Delimiters" := (f15.wr W16)
  obtain ⟨T22, h22, X22, e22, W22, st22⟩ := putFN X16 hx hZ hown (hw _ (own_w 20 rfl)) Via.refl e16 f20 f21 (Or.inr ⟨(hw _ (own_w 21 rfl)), rfl, hnm⟩) (hw _ (own_w 1 rfl)) (ty := .char) (v' := (.int (nar .char p5))) (by decide) rfl (fits_nar_char _) (g := (mkF m 22 #[.val (.ref a1), .val (.int p2), .val (.int p3), .val (.int p4), .val (.int p5), .val (.int p6)] [(.int p5), (.ref a1)])) rfl rfl (hb hby d1_22)
  have N22 := Fr.snoc X22 N16 g1
  have zs23 : n0 ≤ h22.size := Nat.le_trans zs17 (Keep.of_wr W22).1
  have kc24 : Keep h0 h22 [a1] := kc18.wr W22 (Or.inl (List.mem_of_getElem? (i := 0) rfl))
  have fw22 : Fld Z h22 a1 "com/example/refertario/refertario/hl7/Delimiters" "escape" "C" (.int (nar .char p5)) := f20.same W22
  have pre25 : own_Go p e below S0 (T22.setTop (mkF m 28 #[.val (.ref a1), .val (.int p2), .val (.int p3), .val (.int p4), .val (.int p5), .val (.int p6)] [(.int p6), (.ref a1)])) := by
    intro t kt
    refine pre19 t ?_
    refine st22 _ ?_
    show Steps p.tables e below (T22.setTop (mkF m 25 #[.val (.ref a1), .val (.int p2), .val (.int p3), .val (.int p4), .val (.int p5), .val (.int p6)] [])) _
    refine XS.aloadN X22.here hx rfl (hb hby d1_25) rfl rfl ?_
    show Steps p.tables e below (T22.setTop (mkF m 26 #[.val (.ref a1), .val (.int p2), .val (.int p3), .val (.int p4), .val (.int p5), .val (.int p6)] [(.ref a1)])) _
    refine XS.iload X22.here hx rfl (hb hby d1_26) rfl ?_
    show Steps p.tables e below (T22.setTop (mkF m 28 #[.val (.ref a1), .val (.int p2), .val (.int p3), .val (.int p4), .val (.int p5), .val (.int p6)] [(.int p6), (.ref a1)])) _
    exact kt
  have f26 : Fld Z h22 a1 "com/example/refertario/refertario/hl7/Delimiters" "subcomponent" "C" (.int (0 : Int32)) := ((((F4.other W4 (Or.inr (slot_ne (Or.inr (hw _ (own_w 23 rfl))) (Or.inr (hw _ (own_w 15 rfl))) (by decide) (t := .char) (t' := .char) (by decide) (by decide)))).other W10 (Or.inr (slot_ne (Or.inr (hw _ (own_w 23 rfl))) (Or.inr (hw _ (own_w 17 rfl))) (by decide) (t := .char) (t' := .char) (by decide) (by decide)))).other W16 (Or.inr (slot_ne (Or.inr (hw _ (own_w 23 rfl))) (Or.inr (hw _ (own_w 19 rfl))) (by decide) (t := .char) (t' := .char) (by decide) (by decide)))).other W22 (Or.inr (slot_ne (Or.inr (hw _ (own_w 23 rfl))) (Or.inr (hw _ (own_w 21 rfl))) (by decide) (t := .char) (t' := .char) (by decide) (by decide))))
  have f27 : Exa Z h22 a1 "com/example/refertario/refertario/hl7/Delimiters" := (f21.wr W22)
  obtain ⟨T28, h28, X28, e28, W28, st28⟩ := putFN X22 hx hZ hown (hw _ (own_w 22 rfl)) Via.refl e22 f26 f27 (Or.inr ⟨(hw _ (own_w 23 rfl)), rfl, hnm⟩) (hw _ (own_w 1 rfl)) (ty := .char) (v' := (.int (nar .char p6))) (by decide) rfl (fits_nar_char _) (g := (mkF m 28 #[.val (.ref a1), .val (.int p2), .val (.int p3), .val (.int p4), .val (.int p5), .val (.int p6)] [(.int p6), (.ref a1)])) rfl rfl (hb hby d1_28)
  have N28 := Fr.snoc X28 N22 g1
  have zs29 : n0 ≤ h28.size := Nat.le_trans zs23 (Keep.of_wr W28).1
  have kc30 : Keep h0 h28 [a1] := kc24.wr W28 (Or.inl (List.mem_of_getElem? (i := 0) rfl))
  have fw28 : Fld Z h28 a1 "com/example/refertario/refertario/hl7/Delimiters" "subcomponent" "C" (.int (nar .char p6)) := f26.same W28
  have pre31 : own_Go p e below S0 (T28.setTop (mkF m 31 #[.val (.ref a1), .val (.int p2), .val (.int p3), .val (.int p4), .val (.int p5), .val (.int p6)] [])) := by
    intro t kt
    refine pre25 t ?_
    refine st28 _ ?_
    show Steps p.tables e below (T28.setTop (mkF m 31 #[.val (.ref a1), .val (.int p2), .val (.int p3), .val (.int p4), .val (.int p5), .val (.int p6)] [])) _
    exact kt
  obtain ⟨fs, hr, hrun, hended, hW, hsame⟩ := X28.leave (v := none) (fun _ => rfl)
  refine ⟨_, _, fin _ (pre31 _ ?_), hrun, hended, _, _, rfl, ?_, ⟨_, rfl⟩, hW, hsame.mono (by decide) (by decide)⟩
  · exact X28.returnOut hx Bd.returns (hb hby d1_31) hr
  have f32 : Exa Z h28 a1 "com/example/refertario/refertario/hl7/Delimiters" := (f27.wr W28)
  have f33 : Fld Z h28 a1 "com/example/refertario/refertario/hl7/Delimiters" "field" "C" (.int (nar .char p2)) := ((((fw4.other W10 (Or.inr (slot_ne (Or.inr (hw _ (own_w 15 rfl))) (Or.inr (hw _ (own_w 17 rfl))) (by decide) (t := .char) (t' := .char) (by decide) (by decide)))).other W16 (Or.inr (slot_ne (Or.inr (hw _ (own_w 15 rfl))) (Or.inr (hw _ (own_w 19 rfl))) (by decide) (t := .char) (t' := .char) (by decide) (by decide)))).other W22 (Or.inr (slot_ne (Or.inr (hw _ (own_w 15 rfl))) (Or.inr (hw _ (own_w 21 rfl))) (by decide) (t := .char) (t' := .char) (by decide) (by decide)))).other W28 (Or.inr (slot_ne (Or.inr (hw _ (own_w 15 rfl))) (Or.inr (hw _ (own_w 23 rfl))) (by decide) (t := .char) (t' := .char) (by decide) (by decide))))
  have f34 : Fld Z h28 a1 "com/example/refertario/refertario/hl7/Delimiters" "component" "C" (.int (nar .char p3)) := (((fw10.other W16 (Or.inr (slot_ne (Or.inr (hw _ (own_w 17 rfl))) (Or.inr (hw _ (own_w 19 rfl))) (by decide) (t := .char) (t' := .char) (by decide) (by decide)))).other W22 (Or.inr (slot_ne (Or.inr (hw _ (own_w 17 rfl))) (Or.inr (hw _ (own_w 21 rfl))) (by decide) (t := .char) (t' := .char) (by decide) (by decide)))).other W28 (Or.inr (slot_ne (Or.inr (hw _ (own_w 17 rfl))) (Or.inr (hw _ (own_w 23 rfl))) (by decide) (t := .char) (t' := .char) (by decide) (by decide))))
  have f35 : Fld Z h28 a1 "com/example/refertario/refertario/hl7/Delimiters" "repetition" "C" (.int (nar .char p4)) := ((fw16.other W22 (Or.inr (slot_ne (Or.inr (hw _ (own_w 19 rfl))) (Or.inr (hw _ (own_w 21 rfl))) (by decide) (t := .char) (t' := .char) (by decide) (by decide)))).other W28 (Or.inr (slot_ne (Or.inr (hw _ (own_w 19 rfl))) (Or.inr (hw _ (own_w 23 rfl))) (by decide) (t := .char) (t' := .char) (by decide) (by decide))))
  have f36 : Fld Z h28 a1 "com/example/refertario/refertario/hl7/Delimiters" "escape" "C" (.int (nar .char p5)) := (fw22.other W28 (Or.inr (slot_ne (Or.inr (hw _ (own_w 21 rfl))) (Or.inr (hw _ (own_w 23 rfl))) (by decide) (t := .char) (t' := .char) (by decide) (by decide))))
  · show Q1 Z a1 p2 p3 p4 p5 p6 h0 n0 _ T28.heap _
    rw [e28]
    exact ⟨rfl, N28, kc30, f32, f33, f34, f35, f36, fw28⟩

theorem d4_0 : decode prog_49_method_2_code 0 = .ok (.new 25, 3) := by decide +kernel
theorem d4_3 : decode prog_49_method_2_code 3 = .ok (.dup, 1) := by decide +kernel
theorem d4_4 : decode prog_49_method_2_code 4 = .ok (.iconst 4, 1) := by decide +kernel
theorem d4_5 : decode prog_49_method_2_code 5 = .ok (.newarray .char, 2) := by decide +kernel
theorem d4_7 : decode prog_49_method_2_code 7 = .ok (.dup, 1) := by decide +kernel
theorem d4_8 : decode prog_49_method_2_code 8 = .ok (.iconst 0, 1) := by decide +kernel
theorem d4_9 : decode prog_49_method_2_code 9 = .ok (.aload_n 0, 1) := by decide +kernel
theorem d4_10 : decode prog_49_method_2_code 10 = .ok (.getfield 13, 3) := by decide +kernel
theorem d4_13 : decode prog_49_method_2_code 13 = .ok (.castore, 1) := by decide +kernel
theorem d4_14 : decode prog_49_method_2_code 14 = .ok (.dup, 1) := by decide +kernel
theorem d4_15 : decode prog_49_method_2_code 15 = .ok (.iconst 1, 1) := by decide +kernel
theorem d4_16 : decode prog_49_method_2_code 16 = .ok (.aload_n 0, 1) := by decide +kernel
theorem d4_17 : decode prog_49_method_2_code 17 = .ok (.getfield 16, 3) := by decide +kernel
theorem d4_20 : decode prog_49_method_2_code 20 = .ok (.castore, 1) := by decide +kernel
theorem d4_21 : decode prog_49_method_2_code 21 = .ok (.dup, 1) := by decide +kernel
theorem d4_22 : decode prog_49_method_2_code 22 = .ok (.iconst 2, 1) := by decide +kernel
theorem d4_23 : decode prog_49_method_2_code 23 = .ok (.aload_n 0, 1) := by decide +kernel
theorem d4_24 : decode prog_49_method_2_code 24 = .ok (.getfield 19, 3) := by decide +kernel
theorem d4_27 : decode prog_49_method_2_code 27 = .ok (.castore, 1) := by decide +kernel
theorem d4_28 : decode prog_49_method_2_code 28 = .ok (.dup, 1) := by decide +kernel
theorem d4_29 : decode prog_49_method_2_code 29 = .ok (.iconst 3, 1) := by decide +kernel
theorem d4_30 : decode prog_49_method_2_code 30 = .ok (.aload_n 0, 1) := by decide +kernel
theorem d4_31 : decode prog_49_method_2_code 31 = .ok (.getfield 22, 3) := by decide +kernel
theorem d4_34 : decode prog_49_method_2_code 34 = .ok (.castore, 1) := by decide +kernel
theorem d4_35 : decode prog_49_method_2_code 35 = .ok (.invokespecial 27, 3) := by decide +kernel
theorem d4_38 : decode prog_49_method_2_code 38 = .ok (.areturn, 1) := by decide +kernel
theorem pn_4 : plainName "com/example/refertario/refertario/hl7/Delimiters" = true := by first | (simp [plainName, overriddenIn]; done) | decide +kernel
theorem pd_15 : parseMethodDescriptor "([C)V" = some ⟨[(.array .char)], none⟩ := by decide +kernel
theorem ef_4 (m : MethodId) (x0 : Addr) : entryFrame m #[(.ref x0)] 1 = mkF m 0 #[.val (.ref x0)] [] := by first | (simp [entryFrame, mkF, argsToLocals, Value.category]; done) | rfl
def Q4 (Z : State) (a1 : Addr) (w0 : Int32) (w1 : Int32) (w2 : Int32) (w3 : Int32) (wC : Int32) (h0 : Heap) (n0 : Nat) (v : Option Value) (h : Heap) (L : List Loc) : Prop := ∃ b : Addr, ∃ vb : Addr, ∃ kb : ClassId, v = (some (.ref b)) ∧ Fr n0 L ∧ Keep h0 h [] ∧ h0.size ≤ b ∧ h0.size ≤ vb ∧ own_Str Z h b vb kb [(nar .char w0), (nar .char w1), (nar .char w2), (nar .char w3)]
set_option maxRecDepth 65536 in
set_option maxHeartbeats 40000000 in
theorem rm4 (l : Launch) (Z : State) (a0 : Array Value) (hw : ∀ d ∈ tables_1, d.before a0 Z = true) (ws : List Jvm.Cond) (a1 : Addr) (w0 : Int32) (w1 : Int32) (w2 : Int32) (w3 : Int32) (wC : Int32) (h0 : Heap) (n0 : Nat) (Z0 : n0 ≤ h0.size) (O0 : Old Z n0 h0) (SC : Sta Z Z.heap "java/lang/String" "COMPACT_STRINGS" "Z" (.int wC)) (hC : (¬ wC = (0 : Int32))) (SA : Sta Z Z.heap "java/lang/StringUTF16" "$assertionsDisabled" "Z" (.int (1 : Int32))) (SH : Sta Z Z.heap "java/lang/StringUTF16" "HI_BYTE_SHIFT" "I" (.int (0 : Int32))) (SL : Sta Z Z.heap "java/lang/StringUTF16" "LO_BYTE_SHIFT" "I" (.int (8 : Int32))) (F0 : Fld Z h0 a1 "com/example/refertario/refertario/hl7/Delimiters" "component" "C" (.int w0)) (F1 : Fld Z h0 a1 "com/example/refertario/refertario/hl7/Delimiters" "repetition" "C" (.int w1)) (F2 : Fld Z h0 a1 "com/example/refertario/refertario/hl7/Delimiters" "escape" "C" (.int w2)) (F3 : Fld Z h0 a1 "com/example/refertario/refertario/hl7/Delimiters" "subcomponent" "C" (.int w3)) :
    MetFree l (⟨"com/example/refertario/refertario/hl7/Delimiters", "encodingCharacters", "()Ljava/lang/String;"⟩ : MethodName) (head1 (Jvm.Cond.code (⟨"com/example/refertario/refertario/hl7/Delimiters", "encodingCharacters", "()Ljava/lang/String;"⟩ : MethodName) prog_49_method_2_code 1 (some (.object "java/lang/String")) :: ws) ({ frames := 6, cells := 4, slots := 20, locals := 88 } : Room)) (fun a U => a = #[(.ref a1)] ∧ Z.Warmed39 U.vm ∧ U.heap = h0) (fun _ _ _ _ _ => True) (fun _ U o U' => ∃ v L, o = .returned v ∧ Q4 Z a1 w0 w1 w2 w3 wC h0 n0 v U'.heap L ∧ FrameEnd U o U' L ({ frames := 6, cells := 4, slots := 20, locals := 88 } : Room).cells ({ frames := 6, cells := 4, slots := 20, locals := 88 } : Room).slots) := by
  refine MetFree.of_bodySF (plainFor_of_name pn_4) hisR ?_
  intro p e s m args below meth c s₁ Bd hml0 hP hK
  obtain ⟨rfl, hZ, hh⟩ := hP
  have hx := Bd.exec
  have hby := Bd.bytes
  have hml : c.maxLocals = 1 := hml0
  have hown0 := findClass_of_methodNamed Bd.named
  have hown : s.vm.findClass "com/example/refertario/refertario/hl7/Delimiters" = some m.cls := hown0
  have hnm := (name_of_methodNamed Bd.named Bd.method).1
  have X0 : Stand p l e ({ frames := 6, cells := 4, slots := 20, locals := 88 } : Room) s m #[(.ref a1)] below meth c s₁ [] 0 0 := Stand.of_body Bd
  have e0 : s₁.heap = h0 := by rw [← hh, Bd.state]; rfl
  have N0 := Fr.nil n0
  obtain ⟨S0, hS0⟩ : ∃ z, z = s₁.setTop (entryFrame m #[(.ref a1)] 1) := ⟨_, rfl⟩
  have pre0 : own_Go p e below S0 (s₁.setTop (mkF m 0 #[.val (.ref a1)] [])) := fun t k => by rw [hS0]; exact castTop (ef_4 m a1) k
  have fin : ∀ t, Steps p.tables e below S0 t → Steps p.tables e below (s₁.setTop (entryFrame m #[(.ref a1)] 1)) t := fun t k => by rw [hS0] at k; exact k
  have kc0 : Keep h0 h0 [] := Keep.refl _ _
  obtain ⟨T1, h1, X1, e1, E1, A1, D1, -, st1⟩ := newO X0 hx hZ hown (hw _ (own_w 29 rfl)) (hw _ (own_w 30 rfl)) (hw _ (own_w 31 rfl)) e0 (g := (mkF m 0 #[.val (.ref a1)] [])) rfl (hb hby d4_0) (by decide) (by decide)
  obtain ⟨b1, g1⟩ : ∃ z, z = h0.size := ⟨_, rfl⟩
  rw [← g1] at A1 D1 st1
  have ne2 : a1 ≠ b1 := Nat.ne_of_lt (Nat.lt_of_lt_of_le F0.lt (Nat.le_of_eq g1.symm))
  have ge3 : n0 ≤ b1 := Nat.le_trans Z0 (Nat.le_of_eq g1.symm)
  have sz4 : h0.size ≤ b1 := Nat.le_trans kc0.1 (Nat.le_of_eq g1.symm)
  have zs5 : n0 ≤ h1.size := Nat.le_trans Z0 E1.1
  have kc6 : Keep h0 h1 [] := kc0.ext E1
  have fd7 : Fld Z h1 b1 "java/lang/String" "coder" "B" (.int (0 : Int32)) := D1 (Or.inr (hw _ (own_w 54 rfl))) (ty := .byte) (by decide)
  have fd8 : Fld Z h1 b1 "java/lang/String" "value" "[B" .null := D1 (Or.inr (hw _ (own_w 56 rfl))) (ty := (.array .byte)) (by decide)
  have pre9 : own_Go p e below S0 (T1.setTop (mkF m 5 #[.val (.ref a1)] [(.int (4 : Int32)), (.ref b1), (.ref b1)])) := by
    intro t kt
    refine pre0 t ?_
    refine st1 _ ?_
    show Steps p.tables e below (T1.setTop (mkF m 3 #[.val (.ref a1)] [(.ref b1)])) _
    refine XS.dup X1.here hx rfl (hb hby d4_3) rfl rfl ?_
    show Steps p.tables e below (T1.setTop (mkF m 4 #[.val (.ref a1)] [(.ref b1), (.ref b1)])) _
    refine XS.iconst X1.here hx rfl (hb hby d4_4) ?_
    show Steps p.tables e below (T1.setTop (mkF m 5 #[.val (.ref a1)] [(.int (4 : Int32)), (.ref b1), (.ref b1)])) _
    exact kt
  obtain ⟨T10, h10, k10, X10, e10, E10, A10, st10⟩ := newP X1 hx hZ (hw _ (own_w 32 rfl)) e1 (g := (mkF m 5 #[.val (.ref a1)] [(.int (4 : Int32)), (.ref b1), (.ref b1)])) rfl (hb hby d4_5) rfl (by decide) (cap := 4) (by decide) (by decide) (by decide) (by decide)
  obtain ⟨b10, g10⟩ : ∃ z, z = h1.size := ⟨_, rfl⟩
  rw [← g10] at A10 st10
  have f11 : Fld Z h1 a1 "com/example/refertario/refertario/hl7/Delimiters" "component" "C" (.int w0) := (F0.ext E1)
  have ne12 : a1 ≠ b10 := Nat.ne_of_lt (Nat.lt_of_lt_of_le f11.lt (Nat.le_of_eq g10.symm))
  have ne13 : b1 ≠ b10 := Nat.ne_of_lt (Nat.lt_of_lt_of_le A1.lt (Nat.le_of_eq g10.symm))
  have ge14 : n0 ≤ b10 := Nat.le_trans zs5 (Nat.le_of_eq g10.symm)
  have sz15 : h0.size ≤ b10 := Nat.le_trans kc6.1 (Nat.le_of_eq g10.symm)
  have zs16 : n0 ≤ h10.size := Nat.le_trans zs5 E10.1
  have kc17 : Keep h0 h10 [] := kc6.ext E10
  have V10 : Arv Z h10 b10 k10 .char (4 : Int32) [(.int (0 : Int32)), (.int (0 : Int32)), (.int (0 : Int32)), (.int (0 : Int32))] (.int (0 : Int32)) := (Arv.new A10 (by decide)).pad (pad_rep [] (.int (0 : Int32)) 4)
  have pre18 : own_Go p e below S0 (T10.setTop (mkF m 10 #[.val (.ref a1)] [(.ref a1), (.int (0 : Int32)), (.ref b10), (.ref b10), (.ref b1), (.ref b1)])) := by
    intro t kt
    refine pre9 t ?_
    refine st10 _ ?_
    show Steps p.tables e below (T10.setTop (mkF m 7 #[.val (.ref a1)] [(.ref b10), (.ref b1), (.ref b1)])) _
    refine XS.dup X10.here hx rfl (hb hby d4_7) rfl rfl ?_
    show Steps p.tables e below (T10.setTop (mkF m 8 #[.val (.ref a1)] [(.ref b10), (.ref b10), (.ref b1), (.ref b1)])) _
    refine XS.iconst X10.here hx rfl (hb hby d4_8) ?_
    show Steps p.tables e below (T10.setTop (mkF m 9 #[.val (.ref a1)] [(.int (0 : Int32)), (.ref b10), (.ref b10), (.ref b1), (.ref b1)])) _
    refine XS.aloadN X10.here hx rfl (hb hby d4_9) rfl rfl ?_
    show Steps p.tables e below (T10.setTop (mkF m 10 #[.val (.ref a1)] [(.ref a1), (.int (0 : Int32)), (.ref b10), (.ref b10), (.ref b1), (.ref b1)])) _
    exact kt
  have f19 : Fld Z h10 a1 "com/example/refertario/refertario/hl7/Delimiters" "component" "C" (.int w0) := (f11.ext E10)
  obtain ⟨T20, X20, e20, st20⟩ := getF X10 hx hZ hown (host := "") (Or.inl (hw _ (own_w 16 rfl))) Via.refl e10 f19 (g := (mkF m 10 #[.val (.ref a1)] [(.ref a1), (.int (0 : Int32)), (.ref b10), (.ref b10), (.ref b1), (.ref b1)])) rfl rfl (hb hby d4_10)
  have pre21 : own_Go p e below S0 (T20.setTop (mkF m 13 #[.val (.ref a1)] [(.int w0), (.int (0 : Int32)), (.ref b10), (.ref b10), (.ref b1), (.ref b1)])) := by
    intro t kt
    refine pre18 t ?_
    refine st20 _ ?_
    show Steps p.tables e below (T20.setTop (mkF m 13 #[.val (.ref a1)] [(.int w0), (.int (0 : Int32)), (.ref b10), (.ref b10), (.ref b1), (.ref b1)])) _
    exact kt
  obtain ⟨cl22, Ar22, q22, Sz22, Ng22, Hs22, Gt22⟩ := id V10
  have hin22 : ¬ ((0 : Int32) < 0 ∨ cl22.slots.size ≤ ((0 : Int32)).toNatClampNeg) := inb_of Sz22 ⟨by decide, by decide⟩
  obtain ⟨T22, h22, X22, e22, W22, st22⟩ := stC X20 hx hZ e20 Ar22 (j := (0 : Int32)) hin22 (g := (mkF m 13 #[.val (.ref a1)] [(.int w0), (.int (0 : Int32)), (.ref b10), (.ref b10), (.ref b1), (.ref b1)])) rfl rfl (hb hby d4_13)
  have N22 := Fr.snoc X22 N0 ge14
  have zs23 : n0 ≤ h22.size := Nat.le_trans zs16 (Keep.of_wr W22).1
  have kc24 : Keep h0 h22 [] := kc17.wr W22 (Or.inr sz15)
  have V22 : Arv Z h22 b10 k10 .char (4 : Int32) [(.int (nar .char w0)), (.int (0 : Int32)), (.int (0 : Int32)), (.int (0 : Int32))] (.int (0 : Int32)) := Arv.set Ar22 q22 Sz22 Ng22 Hs22 Gt22 (fits_nar_char _) W22 0 rfl (Nat.le_of_ble_eq_true rfl)
  have pre25 : own_Go p e below S0 (T22.setTop (mkF m 17 #[.val (.ref a1)] [(.ref a1), (.int (1 : Int32)), (.ref b10), (.ref b10), (.ref b1), (.ref b1)])) := by
    intro t kt
    refine pre21 t ?_
    refine st22 _ ?_
    show Steps p.tables e below (T22.setTop (mkF m 14 #[.val (.ref a1)] [(.ref b10), (.ref b1), (.ref b1)])) _
    refine XS.dup X22.here hx rfl (hb hby d4_14) rfl rfl ?_
    show Steps p.tables e below (T22.setTop (mkF m 15 #[.val (.ref a1)] [(.ref b10), (.ref b10), (.ref b1), (.ref b1)])) _
    refine XS.iconst X22.here hx rfl (hb hby d4_15) ?_
    show Steps p.tables e below (T22.setTop (mkF m 16 #[.val (.ref a1)] [(.int (1 : Int32)), (.ref b10), (.ref b10), (.ref b1), (.ref b1)])) _
    refine XS.aloadN X22.here hx rfl (hb hby d4_16) rfl rfl ?_
    show Steps p.tables e below (T22.setTop (mkF m 17 #[.val (.ref a1)] [(.ref a1), (.int (1 : Int32)), (.ref b10), (.ref b10), (.ref b1), (.ref b1)])) _
    exact kt
  have f26 : Fld Z h22 a1 "com/example/refertario/refertario/hl7/Delimiters" "repetition" "C" (.int w1) := (((F1.ext E1).ext E10).other W22 (Or.inl ne12))
  obtain ⟨T27, X27, e27, st27⟩ := getF X22 hx hZ hown (host := "") (Or.inl (hw _ (own_w 18 rfl))) Via.refl e22 f26 (g := (mkF m 17 #[.val (.ref a1)] [(.ref a1), (.int (1 : Int32)), (.ref b10), (.ref b10), (.ref b1), (.ref b1)])) rfl rfl (hb hby d4_17)
  have pre28 : own_Go p e below S0 (T27.setTop (mkF m 20 #[.val (.ref a1)] [(.int w1), (.int (1 : Int32)), (.ref b10), (.ref b10), (.ref b1), (.ref b1)])) := by
    intro t kt
    refine pre25 t ?_
    refine st27 _ ?_
    show Steps p.tables e below (T27.setTop (mkF m 20 #[.val (.ref a1)] [(.int w1), (.int (1 : Int32)), (.ref b10), (.ref b10), (.ref b1), (.ref b1)])) _
    exact kt
  obtain ⟨cl29, Ar29, q29, Sz29, Ng29, Hs29, Gt29⟩ := id V22
  have hin29 : ¬ ((1 : Int32) < 0 ∨ cl29.slots.size ≤ ((1 : Int32)).toNatClampNeg) := inb_of Sz29 ⟨by decide, by decide⟩
  obtain ⟨T29, h29, X29, e29, W29, st29⟩ := stC X27 hx hZ e27 Ar29 (j := (1 : Int32)) hin29 (g := (mkF m 20 #[.val (.ref a1)] [(.int w1), (.int (1 : Int32)), (.ref b10), (.ref b10), (.ref b1), (.ref b1)])) rfl rfl (hb hby d4_20)
  have N29 := Fr.snoc X29 N22 ge14
  have zs30 : n0 ≤ h29.size := Nat.le_trans zs23 (Keep.of_wr W29).1
  have kc31 : Keep h0 h29 [] := kc24.wr W29 (Or.inr sz15)
  have V29 : Arv Z h29 b10 k10 .char (4 : Int32) [(.int (nar .char w0)), (.int (nar .char w1)), (.int (0 : Int32)), (.int (0 : Int32))] (.int (0 : Int32)) := Arv.set Ar29 q29 Sz29 Ng29 Hs29 Gt29 (fits_nar_char _) W29 1 rfl (Nat.le_of_ble_eq_true rfl)
  have pre32 : own_Go p e below S0 (T29.setTop (mkF m 24 #[.val (.ref a1)] [(.ref a1), (.int (2 : Int32)), (.ref b10), (.ref b10), (.ref b1), (.ref b1)])) := by
    intro t kt
    refine pre28 t ?_
    refine st29 _ ?_
    show Steps p.tables e below (T29.setTop (mkF m 21 #[.val (.ref a1)] [(.ref b10), (.ref b1), (.ref b1)])) _
    refine XS.dup X29.here hx rfl (hb hby d4_21) rfl rfl ?_
    show Steps p.tables e below (T29.setTop (mkF m 22 #[.val (.ref a1)] [(.ref b10), (.ref b10), (.ref b1), (.ref b1)])) _
    refine XS.iconst X29.here hx rfl (hb hby d4_22) ?_
    show Steps p.tables e below (T29.setTop (mkF m 23 #[.val (.ref a1)] [(.int (2 : Int32)), (.ref b10), (.ref b10), (.ref b1), (.ref b1)])) _
    refine XS.aloadN X29.here hx rfl (hb hby d4_23) rfl rfl ?_
    show Steps p.tables e below (T29.setTop (mkF m 24 #[.val (.ref a1)] [(.ref a1), (.int (2 : Int32)), (.ref b10), (.ref b10), (.ref b1), (.ref b1)])) _
    exact kt
  have f33 : Fld Z h29 a1 "com/example/refertario/refertario/hl7/Delimiters" "escape" "C" (.int w2) := ((((F2.ext E1).ext E10).other W22 (Or.inl ne12)).other W29 (Or.inl ne12))
  obtain ⟨T34, X34, e34, st34⟩ := getF X29 hx hZ hown (host := "") (Or.inl (hw _ (own_w 20 rfl))) Via.refl e29 f33 (g := (mkF m 24 #[.val (.ref a1)] [(.ref a1), (.int (2 : Int32)), (.ref b10), (.ref b10), (.ref b1), (.ref b1)])) rfl rfl (hb hby d4_24)
  have pre35 : own_Go p e below S0 (T34.setTop (mkF m 27 #[.val (.ref a1)] [(.int w2), (.int (2 : Int32)), (.ref b10), (.ref b10), (.ref b1), (.ref b1)])) := by
    intro t kt
    refine pre32 t ?_
    refine st34 _ ?_
    show Steps p.tables e below (T34.setTop (mkF m 27 #[.val (.ref a1)] [(.int w2), (.int (2 : Int32)), (.ref b10), (.ref b10), (.ref b1), (.ref b1)])) _
    exact kt
  obtain ⟨cl36, Ar36, q36, Sz36, Ng36, Hs36, Gt36⟩ := id V29
  have hin36 : ¬ ((2 : Int32) < 0 ∨ cl36.slots.size ≤ ((2 : Int32)).toNatClampNeg) := inb_of Sz36 ⟨by decide, by decide⟩
  obtain ⟨T36, h36, X36, e36, W36, st36⟩ := stC X34 hx hZ e34 Ar36 (j := (2 : Int32)) hin36 (g := (mkF m 27 #[.val (.ref a1)] [(.int w2), (.int (2 : Int32)), (.ref b10), (.ref b10), (.ref b1), (.ref b1)])) rfl rfl (hb hby d4_27)
  have N36 := Fr.snoc X36 N29 ge14
  have zs37 : n0 ≤ h36.size := Nat.le_trans zs30 (Keep.of_wr W36).1
  have kc38 : Keep h0 h36 [] := kc31.wr W36 (Or.inr sz15)
  have V36 : Arv Z h36 b10 k10 .char (4 : Int32) [(.int (nar .char w0)), (.int (nar .char w1)), (.int (nar .char w2)), (.int (0 : Int32))] (.int (0 : Int32)) := Arv.set Ar36 q36 Sz36 Ng36 Hs36 Gt36 (fits_nar_char _) W36 2 rfl (Nat.le_of_ble_eq_true rfl)
  have pre39 : own_Go p e below S0 (T36.setTop (mkF m 31 #[.val (.ref a1)] [(.ref a1), (.int (3 : Int32)), (.ref b10), (.ref b10), (.ref b1), (.ref b1)])) := by
    intro t kt
    refine pre35 t ?_
    refine st36 _ ?_
    show Steps p.tables e below (T36.setTop (mkF m 28 #[.val (.ref a1)] [(.ref b10), (.ref b1), (.ref b1)])) _
    refine XS.dup X36.here hx rfl (hb hby d4_28) rfl rfl ?_
    show Steps p.tables e below (T36.setTop (mkF m 29 #[.val (.ref a1)] [(.ref b10), (.ref b10), (.ref b1), (.ref b1)])) _
    refine XS.iconst X36.here hx rfl (hb hby d4_29) ?_
    show Steps p.tables e below (T36.setTop (mkF m 30 #[.val (.ref a1)] [(.int (3 : Int32)), (.ref b10), (.ref b10), (.ref b1), (.ref b1)])) _
    refine XS.aloadN X36.here hx rfl (hb hby d4_30) rfl rfl ?_
    show Steps p.tables e below (T36.setTop (mkF m 31 #[.val (.ref a1)] [(.ref a1), (.int (3 : Int32)), (.ref b10), (.ref b10), (.ref b1), (.ref b1)])) _
    exact kt
  have f40 : Fld Z h36 a1 "com/example/refertario/refertario/hl7/Delimiters" "subcomponent" "C" (.int w3) := (((((F3.ext E1).ext E10).other W22 (Or.inl ne12)).other W29 (Or.inl ne12)).other W36 (Or.inl ne12))
  obtain ⟨T41, X41, e41, st41⟩ := getF X36 hx hZ hown (host := "") (Or.inl (hw _ (own_w 22 rfl))) Via.refl e36 f40 (g := (mkF m 31 #[.val (.ref a1)] [(.ref a1), (.int (3 : Int32)), (.ref b10), (.ref b10), (.ref b1), (.ref b1)])) rfl rfl (hb hby d4_31)
  have pre42 : own_Go p e below S0 (T41.setTop (mkF m 34 #[.val (.ref a1)] [(.int w3), (.int (3 : Int32)), (.ref b10), (.ref b10), (.ref b1), (.ref b1)])) := by
    intro t kt
    refine pre39 t ?_
    refine st41 _ ?_
    show Steps p.tables e below (T41.setTop (mkF m 34 #[.val (.ref a1)] [(.int w3), (.int (3 : Int32)), (.ref b10), (.ref b10), (.ref b1), (.ref b1)])) _
    exact kt
  obtain ⟨cl43, Ar43, q43, Sz43, Ng43, Hs43, Gt43⟩ := id V36
  have hin43 : ¬ ((3 : Int32) < 0 ∨ cl43.slots.size ≤ ((3 : Int32)).toNatClampNeg) := inb_of Sz43 ⟨by decide, by decide⟩
  obtain ⟨T43, h43, X43, e43, W43, st43⟩ := stC X41 hx hZ e41 Ar43 (j := (3 : Int32)) hin43 (g := (mkF m 34 #[.val (.ref a1)] [(.int w3), (.int (3 : Int32)), (.ref b10), (.ref b10), (.ref b1), (.ref b1)])) rfl rfl (hb hby d4_34)
  have N43 := Fr.snoc X43 N36 ge14
  have zs44 : n0 ≤ h43.size := Nat.le_trans zs37 (Keep.of_wr W43).1
  have kc45 : Keep h0 h43 [] := kc38.wr W43 (Or.inr sz15)
  have V43 : Arv Z h43 b10 k10 .char (4 : Int32) [(.int (nar .char w0)), (.int (nar .char w1)), (.int (nar .char w2)), (.int (nar .char w3))] (.int (0 : Int32)) := Arv.set Ar43 q43 Sz43 Ng43 Hs43 Gt43 (fits_nar_char _) W43 3 rfl (Nat.le_of_ble_eq_true rfl)
  have pre46 : own_Go p e below S0 (T43.setTop (mkF m 35 #[.val (.ref a1)] [(.ref b10), (.ref b1), (.ref b1)])) := by
    intro t kt
    refine pre42 t ?_
    refine st43 _ ?_
    show Steps p.tables e below (T43.setTop (mkF m 35 #[.val (.ref a1)] [(.ref b10), (.ref b1), (.ref b1)])) _
    exact kt
  have f47 : Old Z n0 h43 := ((((((O0.ext E1).ext E10).wr W22 ge14).wr W29 ge14).wr W36 ge14).wr W43 ge14)
  have f48 : Exa Z h43 b1 "java/lang/String" := (((((A1.ext E10).wr W22).wr W29).wr W36).wr W43)
  have f49 : Fld Z h43 b1 "java/lang/String" "value" "[B" .null := (((((fd8.ext E10).other W22 (Or.inl ne13)).other W29 (Or.inl ne13)).other W36 (Or.inl ne13)).other W43 (Or.inl ne13))
  have f50 : Fld Z h43 b1 "java/lang/String" "coder" "B" (.int (0 : Int32)) := (((((fd7.ext E10).other W22 (Or.inl ne13)).other W29 (Or.inl ne13)).other W36 (Or.inl ne13)).other W43 (Or.inl ne13))
  obtain ⟨_, _, ⟨T51, L51, k51, n51⟩, -, X51, ⟨Lc51, hQ51, l51, y51, z51⟩, st51⟩ := X43.specialBack hx (y := (⟨"java/lang/String", "<init>", "([C)V"⟩ : MethodName)) rfl hown (mvT hZ (hw _ (own_w 33 rfl))) (mvT hZ (hw _ (own_w 34 rfl))) (mvT hZ (hw _ (own_w 35 rfl))) (by decide) (backOf (W := 1) (rminit1_4 l Z a0 hw [] b1 b10 k10 (nar .char w0) (nar .char w1) (nar .char w2) (nar .char w3) wC h43 n0 zs44 f47 SC hC SA SH SL f48 f49 f50 ge3 V43) hZ (hw _ (own_w 35 rfl)) (hw _ (own_w 31 rfl)) (by decide) (by decide)) (g := (mkF m 35 #[.val (.ref a1)] [(.ref b10), (.ref b1), (.ref b1)])) rfl (by rw [hml]; rfl) (Steps.refl _) (a := b1) (argsL := [(.ref b10)]) (rest := [(.ref b1)]) (lenOf pd_15 rfl) rfl (by show 2 * 0 + _ ≤ _; exact Nat.le_of_eq rfl) (hb hby d4_35) (fun _ _ => ⟨rfl, e43, (by decide : 2 + 2 ≤ _), (by decide : 8 + 12 ≤ _)⟩)
  dsimp only [Pt.U, Pt.locs, Pt.cells, Pt.slots] at X51 l51 y51 z51 st51 hQ51
  subst l51 y51 z51
  obtain ⟨vb52, kb53, rfl, Nq51, K51, g54, g55⟩ := hQ51
  have N51 := Fr.app N43 Nq51
  have f56 : Fld Z h43 a1 "com/example/refertario/refertario/hl7/Delimiters" "component" "C" (.int w0) := ((((f19.other W22 (Or.inl ne12)).other W29 (Or.inl ne12)).other W36 (Or.inl ne12)).other W43 (Or.inl ne12))
  have ne57 : a1 ≠ vb52 := Nat.ne_of_lt (Nat.lt_of_lt_of_le f56.lt g54)
  have ne58 : b1 ≠ vb52 := Nat.ne_of_lt (Nat.lt_of_lt_of_le f48.lt g54)
  have ne59 : b10 ≠ vb52 := Nat.ne_of_lt (Nat.lt_of_lt_of_le V43.lt g54)
  have ge60 : n0 ≤ vb52 := Nat.le_trans zs44 g54
  have sz61 : h0.size ≤ vb52 := Nat.le_trans kc45.1 g54
  have zs62 : n0 ≤ T51.heap.size := Nat.le_trans zs44 K51.1
  have kc63 : Keep h0 T51.heap [] := kc45.trans K51 (allS (Or.inr sz4) all0)
  have pre64 : own_Go p e below S0 (T51.setTop (mkF m 38 #[.val (.ref a1)] [(.ref b1)])) := by
    intro t kt
    refine pre46 t ?_
    refine st51.trans ?_
    show Steps p.tables e below (T51.setTop (mkF m 38 #[.val (.ref a1)] [(.ref b1)])) _
    exact kt
  obtain ⟨fs, hr, hrun, hended, hW, hsame⟩ := X51.leave (v := some (.ref b1)) (fun h => by rw [Bd.returns] at h; cases h)
  refine ⟨_, _, fin _ (pre64 _ ?_), hrun, hended, _, _, rfl, ?_, ⟨_, rfl⟩, hW, hsame.mono (by decide) (by decide)⟩
  · jvm_step X51.here [X51.here.top, hx, (hb hby d4_38), X51.method', Bd.returns, Value.isRef, FieldType.isReference]
    first | (intro acts; rw [hr _ acts rfl rfl rfl]) | rw [hr _ _ rfl rfl rfl]
    exact Steps.refl _
  · show Q4 Z a1 w0 w1 w2 w3 wC h0 n0 _ T51.heap _
    exact ⟨b1, vb52, kb53, rfl, N51, kc63, sz4, sz61, g55⟩

theorem own_nn (x : Int32) : nar .char (nar .char (x.toUInt32.toUInt16.toUInt32.toInt32)) = x.toUInt32.toUInt16.toUInt32.toInt32 := by
  have h := c_i2c x
  rw [own_narChar _ h.2.1 h.2.2, own_narChar _ h.2.1 h.2.2]

theorem pn_0 : plainName "com/example/refertario/refertario/hl7/DelimitersEncodingCharactersPinLaw" = true := by first | (simp [plainName, overriddenIn]; done) | decide +kernel
theorem pd_16 : parseMethodDescriptor "(CCCCC)V" = some ⟨[.char, .char, .char, .char, .char], none⟩ := by decide +kernel
theorem pd_17 : parseMethodDescriptor "()Ljava/lang/String;" = some ⟨[], some (.object "java/lang/String")⟩ := by decide +kernel
theorem pd_18 : parseMethodDescriptor "()I" = some ⟨[], some .int⟩ := by decide +kernel
theorem pd_19 : parseMethodDescriptor "(I)C" = some ⟨[.int], some .char⟩ := by decide +kernel
theorem ef_0 (m : MethodId) (x0 : Int32) (x1 : Int32) (x2 : Int32) (x3 : Int32) (x4 : Int32) : entryFrame m #[(.int x0), (.int x1), (.int x2), (.int x3), (.int x4)] maxLocals = mkF m 0 #[.val (.int x0), .val (.int x1), .val (.int x2), .val (.int x3), .val (.int x4), .unset, .unset, .unset, .unset, .unset, .unset, .unset] [] := by first | (simp [entryFrame, mkF, argsToLocals, Value.category, maxLocals]; done) | rfl
def Q0 (Z : State) (p1 : Int32) (p2 : Int32) (p3 : Int32) (p4 : Int32) (p5 : Int32) (wC : Int32) (wF : Value) (h0 : Heap) (n0 : Nat) (v : Option Value) (h : Heap) (L : List Loc) : Prop := v = (some (.int 1)) ∧ Fr n0 L
set_option maxRecDepth 65536 in
set_option maxHeartbeats 40000000 in
theorem rm0 (l : Launch) (Z : State) (a0 : Array Value) (hw : ∀ d ∈ tables_1, d.before a0 Z = true) (ws : List Jvm.Cond) (p1 : Int32) (p2 : Int32) (p3 : Int32) (p4 : Int32) (p5 : Int32) (wC : Int32) (wF : Value) (h0 : Heap) (n0 : Nat) (Z0 : n0 ≤ h0.size) (O0 : Old Z n0 h0) (SC : Sta Z Z.heap "java/lang/String" "COMPACT_STRINGS" "Z" (.int wC)) (hC : (¬ wC = (0 : Int32))) (SA : Sta Z Z.heap "java/lang/StringUTF16" "$assertionsDisabled" "Z" (.int (1 : Int32))) (SH : Sta Z Z.heap "java/lang/StringUTF16" "HI_BYTE_SHIFT" "I" (.int (0 : Int32))) (SL : Sta Z Z.heap "java/lang/StringUTF16" "LO_BYTE_SHIFT" "I" (.int (8 : Int32))) (SF : Sta Z Z.heap "jdk/internal/util/Preconditions" "SIOOBE_FORMATTER" "Ljava/util/function/BiFunction;" wF) (hF : (wF.isRef = true)) :
    MetFree l x (head1 (Jvm.Cond.code x code maxLocals ret :: ws) room_1) (fun a U => a = #[(.int p1), (.int p2), (.int p3), (.int p4), (.int p5)] ∧ Z.Warmed39 U.vm ∧ U.heap = h0) (fun _ _ _ _ _ => True) (fun _ U o U' => ∃ v L, o = .returned v ∧ Q0 Z p1 p2 p3 p4 p5 wC wF h0 n0 v U'.heap L ∧ FrameEnd U o U' L 5 25) := by
  refine MetFree.of_bodySF (plainFor_of_name pn_0) hisR ?_
  intro p e s m args below meth c s₁ Bd hml0 hP hK
  obtain ⟨rfl, hZ, hh⟩ := hP
  have hx := Bd.exec
  have hby := Bd.bytes
  have hml : c.maxLocals = 12 := hml0
  have hown0 := findClass_of_methodNamed Bd.named
  have hown : s.vm.findClass "com/example/refertario/refertario/hl7/DelimitersEncodingCharactersPinLaw" = some m.cls := hown0
  have hnm := (name_of_methodNamed Bd.named Bd.method).1
  have X0 : Stand p l e room_1 s m #[(.int p1), (.int p2), (.int p3), (.int p4), (.int p5)] below meth c s₁ [] 0 0 := Stand.of_body Bd
  have e0 : s₁.heap = h0 := by rw [← hh, Bd.state]; rfl
  have N0 := Fr.nil n0
  obtain ⟨S0, hS0⟩ : ∃ z, z = s₁.setTop (entryFrame m #[(.int p1), (.int p2), (.int p3), (.int p4), (.int p5)] maxLocals) := ⟨_, rfl⟩
  have pre0 : own_Go p e below S0 (s₁.setTop (mkF m 0 #[.val (.int p1), .val (.int p2), .val (.int p3), .val (.int p4), .val (.int p5), .unset, .unset, .unset, .unset, .unset, .unset, .unset] [])) := fun t k => by rw [hS0]; exact castTop (ef_0 m p1 p2 p3 p4 p5) k
  have fin : ∀ t, Steps p.tables e below S0 t → Steps p.tables e below (s₁.setTop (entryFrame m #[(.int p1), (.int p2), (.int p3), (.int p4), (.int p5)] maxLocals)) t := fun t k => by rw [hS0] at k; exact k
  have pre1 : own_Go p e below S0 (s₁.setTop (mkF m 21 #[.val (.int p1), .val (.int p2), .val (.int p3), .val (.int p4), .val (.int p5), .val (.int (p1.toUInt32.toUInt16.toUInt32.toInt32)), .val (.int (p2.toUInt32.toUInt16.toUInt32.toInt32)), .val (.int (p3.toUInt32.toUInt16.toUInt32.toInt32)), .val (.int (p4.toUInt32.toUInt16.toUInt32.toInt32)), .val (.int (p5.toUInt32.toUInt16.toUInt32.toInt32)), .unset, .unset] [])) := by
    intro t kt
    refine pre0 t ?_
    refine XS.iloadN X0.here hx rfl (hb hby at_0) rfl ?_
    show Steps p.tables e below (s₁.setTop (mkF m 1 #[.val (.int p1), .val (.int p2), .val (.int p3), .val (.int p4), .val (.int p5), .unset, .unset, .unset, .unset, .unset, .unset, .unset] [(.int p1)])) _
    refine XS.i2c X0.here hx rfl (hb hby at_1) rfl ?_
    show Steps p.tables e below (s₁.setTop (mkF m 2 #[.val (.int p1), .val (.int p2), .val (.int p3), .val (.int p4), .val (.int p5), .unset, .unset, .unset, .unset, .unset, .unset, .unset] [(.int (p1.toUInt32.toUInt16.toUInt32.toInt32))])) _
    refine XS.istore X0.here hx rfl (hb hby at_2) rfl (l' := #[.val (.int p1), .val (.int p2), .val (.int p3), .val (.int p4), .val (.int p5), .val (.int (p1.toUInt32.toUInt16.toUInt32.toInt32)), .unset, .unset, .unset, .unset, .unset, .unset]) rfl ?_
    show Steps p.tables e below (s₁.setTop (mkF m 4 #[.val (.int p1), .val (.int p2), .val (.int p3), .val (.int p4), .val (.int p5), .val (.int (p1.toUInt32.toUInt16.toUInt32.toInt32)), .unset, .unset, .unset, .unset, .unset, .unset] [])) _
    refine XS.iloadN X0.here hx rfl (hb hby at_4) rfl ?_
    show Steps p.tables e below (s₁.setTop (mkF m 5 #[.val (.int p1), .val (.int p2), .val (.int p3), .val (.int p4), .val (.int p5), .val (.int (p1.toUInt32.toUInt16.toUInt32.toInt32)), .unset, .unset, .unset, .unset, .unset, .unset] [(.int p2)])) _
    refine XS.i2c X0.here hx rfl (hb hby at_5) rfl ?_
    show Steps p.tables e below (s₁.setTop (mkF m 6 #[.val (.int p1), .val (.int p2), .val (.int p3), .val (.int p4), .val (.int p5), .val (.int (p1.toUInt32.toUInt16.toUInt32.toInt32)), .unset, .unset, .unset, .unset, .unset, .unset] [(.int (p2.toUInt32.toUInt16.toUInt32.toInt32))])) _
    refine XS.istore X0.here hx rfl (hb hby at_6) rfl (l' := #[.val (.int p1), .val (.int p2), .val (.int p3), .val (.int p4), .val (.int p5), .val (.int (p1.toUInt32.toUInt16.toUInt32.toInt32)), .val (.int (p2.toUInt32.toUInt16.toUInt32.toInt32)), .unset, .unset, .unset, .unset, .unset]) rfl ?_
    show Steps p.tables e below (s₁.setTop (mkF m 8 #[.val (.int p1), .val (.int p2), .val (.int p3), .val (.int p4), .val (.int p5), .val (.int (p1.toUInt32.toUInt16.toUInt32.toInt32)), .val (.int (p2.toUInt32.toUInt16.toUInt32.toInt32)), .unset, .unset, .unset, .unset, .unset] [])) _
    refine XS.iloadN X0.here hx rfl (hb hby at_8) rfl ?_
    show Steps p.tables e below (s₁.setTop (mkF m 9 #[.val (.int p1), .val (.int p2), .val (.int p3), .val (.int p4), .val (.int p5), .val (.int (p1.toUInt32.toUInt16.toUInt32.toInt32)), .val (.int (p2.toUInt32.toUInt16.toUInt32.toInt32)), .unset, .unset, .unset, .unset, .unset] [(.int p3)])) _
    refine XS.i2c X0.here hx rfl (hb hby at_9) rfl ?_
    show Steps p.tables e below (s₁.setTop (mkF m 10 #[.val (.int p1), .val (.int p2), .val (.int p3), .val (.int p4), .val (.int p5), .val (.int (p1.toUInt32.toUInt16.toUInt32.toInt32)), .val (.int (p2.toUInt32.toUInt16.toUInt32.toInt32)), .unset, .unset, .unset, .unset, .unset] [(.int (p3.toUInt32.toUInt16.toUInt32.toInt32))])) _
    refine XS.istore X0.here hx rfl (hb hby at_10) rfl (l' := #[.val (.int p1), .val (.int p2), .val (.int p3), .val (.int p4), .val (.int p5), .val (.int (p1.toUInt32.toUInt16.toUInt32.toInt32)), .val (.int (p2.toUInt32.toUInt16.toUInt32.toInt32)), .val (.int (p3.toUInt32.toUInt16.toUInt32.toInt32)), .unset, .unset, .unset, .unset]) rfl ?_
    show Steps p.tables e below (s₁.setTop (mkF m 12 #[.val (.int p1), .val (.int p2), .val (.int p3), .val (.int p4), .val (.int p5), .val (.int (p1.toUInt32.toUInt16.toUInt32.toInt32)), .val (.int (p2.toUInt32.toUInt16.toUInt32.toInt32)), .val (.int (p3.toUInt32.toUInt16.toUInt32.toInt32)), .unset, .unset, .unset, .unset] [])) _
    refine XS.iloadN X0.here hx rfl (hb hby at_12) rfl ?_
    show Steps p.tables e below (s₁.setTop (mkF m 13 #[.val (.int p1), .val (.int p2), .val (.int p3), .val (.int p4), .val (.int p5), .val (.int (p1.toUInt32.toUInt16.toUInt32.toInt32)), .val (.int (p2.toUInt32.toUInt16.toUInt32.toInt32)), .val (.int (p3.toUInt32.toUInt16.toUInt32.toInt32)), .unset, .unset, .unset, .unset] [(.int p4)])) _
    refine XS.i2c X0.here hx rfl (hb hby at_13) rfl ?_
    show Steps p.tables e below (s₁.setTop (mkF m 14 #[.val (.int p1), .val (.int p2), .val (.int p3), .val (.int p4), .val (.int p5), .val (.int (p1.toUInt32.toUInt16.toUInt32.toInt32)), .val (.int (p2.toUInt32.toUInt16.toUInt32.toInt32)), .val (.int (p3.toUInt32.toUInt16.toUInt32.toInt32)), .unset, .unset, .unset, .unset] [(.int (p4.toUInt32.toUInt16.toUInt32.toInt32))])) _
    refine XS.istore X0.here hx rfl (hb hby at_14) rfl (l' := #[.val (.int p1), .val (.int p2), .val (.int p3), .val (.int p4), .val (.int p5), .val (.int (p1.toUInt32.toUInt16.toUInt32.toInt32)), .val (.int (p2.toUInt32.toUInt16.toUInt32.toInt32)), .val (.int (p3.toUInt32.toUInt16.toUInt32.toInt32)), .val (.int (p4.toUInt32.toUInt16.toUInt32.toInt32)), .unset, .unset, .unset]) rfl ?_
    show Steps p.tables e below (s₁.setTop (mkF m 16 #[.val (.int p1), .val (.int p2), .val (.int p3), .val (.int p4), .val (.int p5), .val (.int (p1.toUInt32.toUInt16.toUInt32.toInt32)), .val (.int (p2.toUInt32.toUInt16.toUInt32.toInt32)), .val (.int (p3.toUInt32.toUInt16.toUInt32.toInt32)), .val (.int (p4.toUInt32.toUInt16.toUInt32.toInt32)), .unset, .unset, .unset] [])) _
    refine XS.iload X0.here hx rfl (hb hby at_16) rfl ?_
    show Steps p.tables e below (s₁.setTop (mkF m 18 #[.val (.int p1), .val (.int p2), .val (.int p3), .val (.int p4), .val (.int p5), .val (.int (p1.toUInt32.toUInt16.toUInt32.toInt32)), .val (.int (p2.toUInt32.toUInt16.toUInt32.toInt32)), .val (.int (p3.toUInt32.toUInt16.toUInt32.toInt32)), .val (.int (p4.toUInt32.toUInt16.toUInt32.toInt32)), .unset, .unset, .unset] [(.int p5)])) _
    refine XS.i2c X0.here hx rfl (hb hby at_18) rfl ?_
    show Steps p.tables e below (s₁.setTop (mkF m 19 #[.val (.int p1), .val (.int p2), .val (.int p3), .val (.int p4), .val (.int p5), .val (.int (p1.toUInt32.toUInt16.toUInt32.toInt32)), .val (.int (p2.toUInt32.toUInt16.toUInt32.toInt32)), .val (.int (p3.toUInt32.toUInt16.toUInt32.toInt32)), .val (.int (p4.toUInt32.toUInt16.toUInt32.toInt32)), .unset, .unset, .unset] [(.int (p5.toUInt32.toUInt16.toUInt32.toInt32))])) _
    refine XS.istore X0.here hx rfl (hb hby at_19) rfl (l' := #[.val (.int p1), .val (.int p2), .val (.int p3), .val (.int p4), .val (.int p5), .val (.int (p1.toUInt32.toUInt16.toUInt32.toInt32)), .val (.int (p2.toUInt32.toUInt16.toUInt32.toInt32)), .val (.int (p3.toUInt32.toUInt16.toUInt32.toInt32)), .val (.int (p4.toUInt32.toUInt16.toUInt32.toInt32)), .val (.int (p5.toUInt32.toUInt16.toUInt32.toInt32)), .unset, .unset]) rfl ?_
    show Steps p.tables e below (s₁.setTop (mkF m 21 #[.val (.int p1), .val (.int p2), .val (.int p3), .val (.int p4), .val (.int p5), .val (.int (p1.toUInt32.toUInt16.toUInt32.toInt32)), .val (.int (p2.toUInt32.toUInt16.toUInt32.toInt32)), .val (.int (p3.toUInt32.toUInt16.toUInt32.toInt32)), .val (.int (p4.toUInt32.toUInt16.toUInt32.toInt32)), .val (.int (p5.toUInt32.toUInt16.toUInt32.toInt32)), .unset, .unset] [])) _
    exact kt
  obtain ⟨T2, h2, X2, e2, E2, A2, D2, -, st2⟩ := newO X0 hx hZ hown (hw _ (own_w 0 rfl)) (hw _ (own_w 1 rfl)) (hw _ (own_w 2 rfl)) e0 (g := (mkF m 21 #[.val (.int p1), .val (.int p2), .val (.int p3), .val (.int p4), .val (.int p5), .val (.int (p1.toUInt32.toUInt16.toUInt32.toInt32)), .val (.int (p2.toUInt32.toUInt16.toUInt32.toInt32)), .val (.int (p3.toUInt32.toUInt16.toUInt32.toInt32)), .val (.int (p4.toUInt32.toUInt16.toUInt32.toInt32)), .val (.int (p5.toUInt32.toUInt16.toUInt32.toInt32)), .unset, .unset] [])) rfl (hb hby at_21) (by decide) (by decide)
  obtain ⟨b2, g2⟩ : ∃ z, z = h0.size := ⟨_, rfl⟩
  rw [← g2] at A2 D2 st2
  have ge3 : n0 ≤ b2 := Nat.le_trans Z0 (Nat.le_of_eq g2.symm)
  have zs4 : n0 ≤ h2.size := Nat.le_trans Z0 E2.1
  have fd5 : Fld Z h2 b2 "com/example/refertario/refertario/hl7/Delimiters" "field" "C" (.int (0 : Int32)) := D2 (Or.inr (hw _ (own_w 15 rfl))) (ty := .char) (by decide)
  have fd6 : Fld Z h2 b2 "com/example/refertario/refertario/hl7/Delimiters" "component" "C" (.int (0 : Int32)) := D2 (Or.inr (hw _ (own_w 17 rfl))) (ty := .char) (by decide)
  have fd7 : Fld Z h2 b2 "com/example/refertario/refertario/hl7/Delimiters" "repetition" "C" (.int (0 : Int32)) := D2 (Or.inr (hw _ (own_w 19 rfl))) (ty := .char) (by decide)
  have fd8 : Fld Z h2 b2 "com/example/refertario/refertario/hl7/Delimiters" "escape" "C" (.int (0 : Int32)) := D2 (Or.inr (hw _ (own_w 21 rfl))) (ty := .char) (by decide)
  have fd9 : Fld Z h2 b2 "com/example/refertario/refertario/hl7/Delimiters" "subcomponent" "C" (.int (0 : Int32)) := D2 (Or.inr (hw _ (own_w 23 rfl))) (ty := .char) (by decide)
  have pre10 : own_Go p e below S0 (T2.setTop (mkF m 35 #[.val (.int p1), .val (.int p2), .val (.int p3), .val (.int p4), .val (.int p5), .val (.int (p1.toUInt32.toUInt16.toUInt32.toInt32)), .val (.int (p2.toUInt32.toUInt16.toUInt32.toInt32)), .val (.int (p3.toUInt32.toUInt16.toUInt32.toInt32)), .val (.int (p4.toUInt32.toUInt16.toUInt32.toInt32)), .val (.int (p5.toUInt32.toUInt16.toUInt32.toInt32)), .unset, .unset] [(.int (p5.toUInt32.toUInt16.toUInt32.toInt32)), (.int (p4.toUInt32.toUInt16.toUInt32.toInt32)), (.int (p3.toUInt32.toUInt16.toUInt32.toInt32)), (.int (p2.toUInt32.toUInt16.toUInt32.toInt32)), (.int (p1.toUInt32.toUInt16.toUInt32.toInt32)), (.ref b2), (.ref b2)])) := by
    intro t kt
    refine pre1 t ?_
    refine st2 _ ?_
    show Steps p.tables e below (T2.setTop (mkF m 24 #[.val (.int p1), .val (.int p2), .val (.int p3), .val (.int p4), .val (.int p5), .val (.int (p1.toUInt32.toUInt16.toUInt32.toInt32)), .val (.int (p2.toUInt32.toUInt16.toUInt32.toInt32)), .val (.int (p3.toUInt32.toUInt16.toUInt32.toInt32)), .val (.int (p4.toUInt32.toUInt16.toUInt32.toInt32)), .val (.int (p5.toUInt32.toUInt16.toUInt32.toInt32)), .unset, .unset] [(.ref b2)])) _
    refine XS.dup X2.here hx rfl (hb hby at_24) rfl rfl ?_
    show Steps p.tables e below (T2.setTop (mkF m 25 #[.val (.int p1), .val (.int p2), .val (.int p3), .val (.int p4), .val (.int p5), .val (.int (p1.toUInt32.toUInt16.toUInt32.toInt32)), .val (.int (p2.toUInt32.toUInt16.toUInt32.toInt32)), .val (.int (p3.toUInt32.toUInt16.toUInt32.toInt32)), .val (.int (p4.toUInt32.toUInt16.toUInt32.toInt32)), .val (.int (p5.toUInt32.toUInt16.toUInt32.toInt32)), .unset, .unset] [(.ref b2), (.ref b2)])) _
    refine XS.iload X2.here hx rfl (hb hby at_25) rfl ?_
    show Steps p.tables e below (T2.setTop (mkF m 27 #[.val (.int p1), .val (.int p2), .val (.int p3), .val (.int p4), .val (.int p5), .val (.int (p1.toUInt32.toUInt16.toUInt32.toInt32)), .val (.int (p2.toUInt32.toUInt16.toUInt32.toInt32)), .val (.int (p3.toUInt32.toUInt16.toUInt32.toInt32)), .val (.int (p4.toUInt32.toUInt16.toUInt32.toInt32)), .val (.int (p5.toUInt32.toUInt16.toUInt32.toInt32)), .unset, .unset] [(.int (p1.toUInt32.toUInt16.toUInt32.toInt32)), (.ref b2), (.ref b2)])) _
    refine XS.iload X2.here hx rfl (hb hby at_27) rfl ?_
    show Steps p.tables e below (T2.setTop (mkF m 29 #[.val (.int p1), .val (.int p2), .val (.int p3), .val (.int p4), .val (.int p5), .val (.int (p1.toUInt32.toUInt16.toUInt32.toInt32)), .val (.int (p2.toUInt32.toUInt16.toUInt32.toInt32)), .val (.int (p3.toUInt32.toUInt16.toUInt32.toInt32)), .val (.int (p4.toUInt32.toUInt16.toUInt32.toInt32)), .val (.int (p5.toUInt32.toUInt16.toUInt32.toInt32)), .unset, .unset] [(.int (p2.toUInt32.toUInt16.toUInt32.toInt32)), (.int (p1.toUInt32.toUInt16.toUInt32.toInt32)), (.ref b2), (.ref b2)])) _
    refine XS.iload X2.here hx rfl (hb hby at_29) rfl ?_
    show Steps p.tables e below (T2.setTop (mkF m 31 #[.val (.int p1), .val (.int p2), .val (.int p3), .val (.int p4), .val (.int p5), .val (.int (p1.toUInt32.toUInt16.toUInt32.toInt32)), .val (.int (p2.toUInt32.toUInt16.toUInt32.toInt32)), .val (.int (p3.toUInt32.toUInt16.toUInt32.toInt32)), .val (.int (p4.toUInt32.toUInt16.toUInt32.toInt32)), .val (.int (p5.toUInt32.toUInt16.toUInt32.toInt32)), .unset, .unset] [(.int (p3.toUInt32.toUInt16.toUInt32.toInt32)), (.int (p2.toUInt32.toUInt16.toUInt32.toInt32)), (.int (p1.toUInt32.toUInt16.toUInt32.toInt32)), (.ref b2), (.ref b2)])) _
    refine XS.iload X2.here hx rfl (hb hby at_31) rfl ?_
    show Steps p.tables e below (T2.setTop (mkF m 33 #[.val (.int p1), .val (.int p2), .val (.int p3), .val (.int p4), .val (.int p5), .val (.int (p1.toUInt32.toUInt16.toUInt32.toInt32)), .val (.int (p2.toUInt32.toUInt16.toUInt32.toInt32)), .val (.int (p3.toUInt32.toUInt16.toUInt32.toInt32)), .val (.int (p4.toUInt32.toUInt16.toUInt32.toInt32)), .val (.int (p5.toUInt32.toUInt16.toUInt32.toInt32)), .unset, .unset] [(.int (p4.toUInt32.toUInt16.toUInt32.toInt32)), (.int (p3.toUInt32.toUInt16.toUInt32.toInt32)), (.int (p2.toUInt32.toUInt16.toUInt32.toInt32)), (.int (p1.toUInt32.toUInt16.toUInt32.toInt32)), (.ref b2), (.ref b2)])) _
    refine XS.iload X2.here hx rfl (hb hby at_33) rfl ?_
    show Steps p.tables e below (T2.setTop (mkF m 35 #[.val (.int p1), .val (.int p2), .val (.int p3), .val (.int p4), .val (.int p5), .val (.int (p1.toUInt32.toUInt16.toUInt32.toInt32)), .val (.int (p2.toUInt32.toUInt16.toUInt32.toInt32)), .val (.int (p3.toUInt32.toUInt16.toUInt32.toInt32)), .val (.int (p4.toUInt32.toUInt16.toUInt32.toInt32)), .val (.int (p5.toUInt32.toUInt16.toUInt32.toInt32)), .unset, .unset] [(.int (p5.toUInt32.toUInt16.toUInt32.toInt32)), (.int (p4.toUInt32.toUInt16.toUInt32.toInt32)), (.int (p3.toUInt32.toUInt16.toUInt32.toInt32)), (.int (p2.toUInt32.toUInt16.toUInt32.toInt32)), (.int (p1.toUInt32.toUInt16.toUInt32.toInt32)), (.ref b2), (.ref b2)])) _
    exact kt
  obtain ⟨_, _, ⟨T11, L11, k11, n11⟩, -, X11, ⟨Lc11, hQ11, l11, y11, z11⟩, st11⟩ := X2.specialBack hx (y := (⟨"com/example/refertario/refertario/hl7/Delimiters", "<init>", "(CCCCC)V"⟩ : MethodName)) rfl hown (mvT hZ (hw _ (own_w 3 rfl))) (mvT hZ (hw _ (own_w 4 rfl))) (mvT hZ (hw _ (own_w 5 rfl))) (by decide) (backOf (W := 1) (rm1 l Z a0 hw [] b2 (p1.toUInt32.toUInt16.toUInt32.toInt32) (p2.toUInt32.toUInt16.toUInt32.toInt32) (p3.toUInt32.toUInt16.toUInt32.toInt32) (p4.toUInt32.toUInt16.toUInt32.toInt32) (p5.toUInt32.toUInt16.toUInt32.toInt32) h2 n0 zs4 A2 fd5 fd6 fd7 fd8 fd9 ge3) hZ (hw _ (own_w 5 rfl)) (hw _ (own_w 2 rfl)) (by decide) (by decide)) (g := (mkF m 35 #[.val (.int p1), .val (.int p2), .val (.int p3), .val (.int p4), .val (.int p5), .val (.int (p1.toUInt32.toUInt16.toUInt32.toInt32)), .val (.int (p2.toUInt32.toUInt16.toUInt32.toInt32)), .val (.int (p3.toUInt32.toUInt16.toUInt32.toInt32)), .val (.int (p4.toUInt32.toUInt16.toUInt32.toInt32)), .val (.int (p5.toUInt32.toUInt16.toUInt32.toInt32)), .unset, .unset] [(.int (p5.toUInt32.toUInt16.toUInt32.toInt32)), (.int (p4.toUInt32.toUInt16.toUInt32.toInt32)), (.int (p3.toUInt32.toUInt16.toUInt32.toInt32)), (.int (p2.toUInt32.toUInt16.toUInt32.toInt32)), (.int (p1.toUInt32.toUInt16.toUInt32.toInt32)), (.ref b2), (.ref b2)])) rfl (by rw [hml]; rfl) (Steps.refl _) (a := b2) (argsL := [(.int (p1.toUInt32.toUInt16.toUInt32.toInt32)), (.int (p2.toUInt32.toUInt16.toUInt32.toInt32)), (.int (p3.toUInt32.toUInt16.toUInt32.toInt32)), (.int (p4.toUInt32.toUInt16.toUInt32.toInt32)), (.int (p5.toUInt32.toUInt16.toUInt32.toInt32))]) (rest := [(.ref b2)]) (lenOf pd_16 rfl) rfl (by show 2 * 0 + _ ≤ _; exact Nat.le_of_eq rfl) (hb hby at_35) (fun _ _ => ⟨rfl, e2, (by decide : 1 + 0 ≤ _), (by decide : 5 + 0 ≤ _)⟩)
  dsimp only [Pt.U, Pt.locs, Pt.cells, Pt.slots] at X11 l11 y11 z11 st11 hQ11
  subst l11 y11 z11
  obtain ⟨rfl, Nq11, K11, g12, g13, g14, g15, g16, g17⟩ := hQ11
  have N11 := Fr.app N0 Nq11
  have zs18 : n0 ≤ T11.heap.size := Nat.le_trans zs4 K11.1
  have pre19 : own_Go p e below S0 (T11.setTop (mkF m 42 #[.val (.int p1), .val (.int p2), .val (.int p3), .val (.int p4), .val (.int p5), .val (.int (p1.toUInt32.toUInt16.toUInt32.toInt32)), .val (.int (p2.toUInt32.toUInt16.toUInt32.toInt32)), .val (.int (p3.toUInt32.toUInt16.toUInt32.toInt32)), .val (.int (p4.toUInt32.toUInt16.toUInt32.toInt32)), .val (.int (p5.toUInt32.toUInt16.toUInt32.toInt32)), .val (.ref b2), .unset] [(.ref b2)])) := by
    intro t kt
    refine pre10 t ?_
    refine st11.trans ?_
    show Steps p.tables e below (T11.setTop (mkF m 38 #[.val (.int p1), .val (.int p2), .val (.int p3), .val (.int p4), .val (.int p5), .val (.int (p1.toUInt32.toUInt16.toUInt32.toInt32)), .val (.int (p2.toUInt32.toUInt16.toUInt32.toInt32)), .val (.int (p3.toUInt32.toUInt16.toUInt32.toInt32)), .val (.int (p4.toUInt32.toUInt16.toUInt32.toInt32)), .val (.int (p5.toUInt32.toUInt16.toUInt32.toInt32)), .unset, .unset] [(.ref b2)])) _
    refine XS.astore X11.here hx rfl (hb hby at_38) rfl rfl (l' := #[.val (.int p1), .val (.int p2), .val (.int p3), .val (.int p4), .val (.int p5), .val (.int (p1.toUInt32.toUInt16.toUInt32.toInt32)), .val (.int (p2.toUInt32.toUInt16.toUInt32.toInt32)), .val (.int (p3.toUInt32.toUInt16.toUInt32.toInt32)), .val (.int (p4.toUInt32.toUInt16.toUInt32.toInt32)), .val (.int (p5.toUInt32.toUInt16.toUInt32.toInt32)), .val (.ref b2), .unset]) rfl ?_
    show Steps p.tables e below (T11.setTop (mkF m 40 #[.val (.int p1), .val (.int p2), .val (.int p3), .val (.int p4), .val (.int p5), .val (.int (p1.toUInt32.toUInt16.toUInt32.toInt32)), .val (.int (p2.toUInt32.toUInt16.toUInt32.toInt32)), .val (.int (p3.toUInt32.toUInt16.toUInt32.toInt32)), .val (.int (p4.toUInt32.toUInt16.toUInt32.toInt32)), .val (.int (p5.toUInt32.toUInt16.toUInt32.toInt32)), .val (.ref b2), .unset] [])) _
    refine XS.aload X11.here hx rfl (hb hby at_40) rfl rfl ?_
    show Steps p.tables e below (T11.setTop (mkF m 42 #[.val (.int p1), .val (.int p2), .val (.int p3), .val (.int p4), .val (.int p5), .val (.int (p1.toUInt32.toUInt16.toUInt32.toInt32)), .val (.int (p2.toUInt32.toUInt16.toUInt32.toInt32)), .val (.int (p3.toUInt32.toUInt16.toUInt32.toInt32)), .val (.int (p4.toUInt32.toUInt16.toUInt32.toInt32)), .val (.int (p5.toUInt32.toUInt16.toUInt32.toInt32)), .val (.ref b2), .unset] [(.ref b2)])) _
    exact kt
  have f20 : Old Z n0 T11.heap := ((O0.ext E2).keep K11 (allS ge3 all0))
  obtain ⟨cq21, kq21, qa21, qb21, qc21⟩ := isOf hZ rfl g12
  obtain ⟨_, _, ⟨T21, L21, k21, n21⟩, -, X21, ⟨Lc21, hQ21, l21, y21, z21⟩, st21⟩ := X11.virtualBack hx (y := (⟨"com/example/refertario/refertario/hl7/Delimiters", "encodingCharacters", "()Ljava/lang/String;"⟩ : MethodName)) (z := (⟨"com/example/refertario/refertario/hl7/Delimiters", "encodingCharacters", "()Ljava/lang/String;"⟩ : MethodName)) hown (mvT hZ (hw _ (own_w 24 rfl))) (mvT hZ (hw _ (own_w 25 rfl))) (notFace_of_selects (args := #[]) (mvT hZ (hw _ (own_w 27 rfl)))) (mvT hZ (hw _ (own_w 27 rfl))) (mvT hZ (hw _ (own_w 26 rfl))) (by decide) (backOf (W := 0) (rm4 l Z a0 hw [] b2 (nar .char (p2.toUInt32.toUInt16.toUInt32.toInt32)) (nar .char (p3.toUInt32.toUInt16.toUInt32.toInt32)) (nar .char (p4.toUInt32.toUInt16.toUInt32.toInt32)) (nar .char (p5.toUInt32.toUInt16.toUInt32.toInt32)) wC T11.heap n0 zs18 f20 SC hC SA SH SL g14 g15 g16 g17) hZ (hw _ (own_w 28 rfl)) (hw _ (own_w 2 rfl)) (by decide) (by decide)) qa21 qc21 (g := (mkF m 42 #[.val (.int p1), .val (.int p2), .val (.int p3), .val (.int p4), .val (.int p5), .val (.int (p1.toUInt32.toUInt16.toUInt32.toInt32)), .val (.int (p2.toUInt32.toUInt16.toUInt32.toInt32)), .val (.int (p3.toUInt32.toUInt16.toUInt32.toInt32)), .val (.int (p4.toUInt32.toUInt16.toUInt32.toInt32)), .val (.int (p5.toUInt32.toUInt16.toUInt32.toInt32)), .val (.ref b2), .unset] [(.ref b2)])) rfl (by rw [hml]; rfl) (Steps.refl _) (argsL := []) (rest := []) (lenOf pd_17 rfl) rfl (by show 2 * 0 + _ ≤ _; exact Nat.le_of_eq rfl) (hb hby at_42) (fun _ _ => ⟨rfl, rfl, (by decide : 1 + 4 ≤ _), (by decide : 5 + 20 ≤ _)⟩)
  dsimp only [Pt.U, Pt.locs, Pt.cells, Pt.slots] at X21 l21 y21 z21 st21 hQ21
  subst l21 y21 z21
  obtain ⟨b22, vb23, kb24, rfl, Nq21, K21, g25, g26, g27⟩ := hQ21
  have N21 := Fr.app N11 Nq21
  have ne28 : b2 ≠ b22 := Nat.ne_of_lt (Nat.lt_of_lt_of_le g12.lt g25)
  have ge29 : n0 ≤ b22 := Nat.le_trans zs18 g25
  have ne30 : b2 ≠ vb23 := Nat.ne_of_lt (Nat.lt_of_lt_of_le g12.lt g26)
  have ge31 : n0 ≤ vb23 := Nat.le_trans zs18 g26
  have zs32 : n0 ≤ T21.heap.size := Nat.le_trans zs18 K21.1
  have pre33 : own_Go p e below S0 (T21.setTop (mkF m 49 #[.val (.int p1), .val (.int p2), .val (.int p3), .val (.int p4), .val (.int p5), .val (.int (p1.toUInt32.toUInt16.toUInt32.toInt32)), .val (.int (p2.toUInt32.toUInt16.toUInt32.toInt32)), .val (.int (p3.toUInt32.toUInt16.toUInt32.toInt32)), .val (.int (p4.toUInt32.toUInt16.toUInt32.toInt32)), .val (.int (p5.toUInt32.toUInt16.toUInt32.toInt32)), .val (.ref b2), .val (.ref b22)] [(.ref b22)])) := by
    intro t kt
    refine pre19 t ?_
    refine st21.trans ?_
    show Steps p.tables e below (T21.setTop (mkF m 45 #[.val (.int p1), .val (.int p2), .val (.int p3), .val (.int p4), .val (.int p5), .val (.int (p1.toUInt32.toUInt16.toUInt32.toInt32)), .val (.int (p2.toUInt32.toUInt16.toUInt32.toInt32)), .val (.int (p3.toUInt32.toUInt16.toUInt32.toInt32)), .val (.int (p4.toUInt32.toUInt16.toUInt32.toInt32)), .val (.int (p5.toUInt32.toUInt16.toUInt32.toInt32)), .val (.ref b2), .unset] [(.ref b22)])) _
    refine XS.astore X21.here hx rfl (hb hby at_45) rfl rfl (l' := #[.val (.int p1), .val (.int p2), .val (.int p3), .val (.int p4), .val (.int p5), .val (.int (p1.toUInt32.toUInt16.toUInt32.toInt32)), .val (.int (p2.toUInt32.toUInt16.toUInt32.toInt32)), .val (.int (p3.toUInt32.toUInt16.toUInt32.toInt32)), .val (.int (p4.toUInt32.toUInt16.toUInt32.toInt32)), .val (.int (p5.toUInt32.toUInt16.toUInt32.toInt32)), .val (.ref b2), .val (.ref b22)]) rfl ?_
    show Steps p.tables e below (T21.setTop (mkF m 47 #[.val (.int p1), .val (.int p2), .val (.int p3), .val (.int p4), .val (.int p5), .val (.int (p1.toUInt32.toUInt16.toUInt32.toInt32)), .val (.int (p2.toUInt32.toUInt16.toUInt32.toInt32)), .val (.int (p3.toUInt32.toUInt16.toUInt32.toInt32)), .val (.int (p4.toUInt32.toUInt16.toUInt32.toInt32)), .val (.int (p5.toUInt32.toUInt16.toUInt32.toInt32)), .val (.ref b2), .val (.ref b22)] [])) _
    refine XS.aload X21.here hx rfl (hb hby at_47) rfl rfl ?_
    show Steps p.tables e below (T21.setTop (mkF m 49 #[.val (.int p1), .val (.int p2), .val (.int p3), .val (.int p4), .val (.int p5), .val (.int (p1.toUInt32.toUInt16.toUInt32.toInt32)), .val (.int (p2.toUInt32.toUInt16.toUInt32.toInt32)), .val (.int (p3.toUInt32.toUInt16.toUInt32.toInt32)), .val (.int (p4.toUInt32.toUInt16.toUInt32.toInt32)), .val (.int (p5.toUInt32.toUInt16.toUInt32.toInt32)), .val (.ref b2), .val (.ref b22)] [(.ref b22)])) _
    exact kt
  have f34 : Old Z n0 T21.heap := (f20.keep K21 all0)
  obtain ⟨cq35, kq35, qa35, qb35, qc35⟩ := isOf hZ rfl (g27).1
  obtain ⟨_, _, ⟨T35, L35, k35, n35⟩, -, X35, ⟨Lc35, hQ35, l35, y35, z35⟩, st35⟩ := X21.virtualBack hx (y := (⟨"java/lang/String", "length", "()I"⟩ : MethodName)) (z := (⟨"java/lang/String", "length", "()I"⟩ : MethodName)) hown (mvT hZ (hw _ (own_w 57 rfl))) (mvT hZ (hw _ (own_w 58 rfl))) (notFace_of_selects (args := #[]) (mvT hZ (hw _ (own_w 60 rfl)))) (mvT hZ (hw _ (own_w 60 rfl))) (mvT hZ (hw _ (own_w 59 rfl))) (by decide) (backOf (W := 0) (rmlength_n4 l Z a0 hw [] b22 wC vb23 kb24 (nar .char (nar .char (p2.toUInt32.toUInt16.toUInt32.toInt32))) (nar .char (nar .char (p3.toUInt32.toUInt16.toUInt32.toInt32))) (nar .char (nar .char (p4.toUInt32.toUInt16.toUInt32.toInt32))) (nar .char (nar .char (p5.toUInt32.toUInt16.toUInt32.toInt32))) T21.heap n0 zs32 f34 SC hC g27) hZ (hw _ (own_w 61 rfl)) (hw _ (own_w 31 rfl)) (by decide) (by decide)) qa35 qc35 (g := (mkF m 49 #[.val (.int p1), .val (.int p2), .val (.int p3), .val (.int p4), .val (.int p5), .val (.int (p1.toUInt32.toUInt16.toUInt32.toInt32)), .val (.int (p2.toUInt32.toUInt16.toUInt32.toInt32)), .val (.int (p3.toUInt32.toUInt16.toUInt32.toInt32)), .val (.int (p4.toUInt32.toUInt16.toUInt32.toInt32)), .val (.int (p5.toUInt32.toUInt16.toUInt32.toInt32)), .val (.ref b2), .val (.ref b22)] [(.ref b22)])) rfl (by rw [hml]; rfl) (Steps.refl _) (argsL := []) (rest := []) (lenOf pd_18 rfl) rfl (by show 2 * 0 + _ ≤ _; exact Nat.le_of_eq rfl) (hb hby at_49) (fun _ _ => ⟨rfl, rfl, (by decide : 5 + 0 ≤ _), (by decide : 25 + 0 ≤ _)⟩)
  dsimp only [Pt.U, Pt.locs, Pt.cells, Pt.slots] at X35 l35 y35 z35 st35 hQ35
  subst l35 y35 z35
  obtain ⟨rfl, Nq35, eq35⟩ := hQ35
  have N35 := Fr.app N21 Nq35
  have pre36 : own_Go p e below S0 (T35.setTop (mkF m 59 #[.val (.int p1), .val (.int p2), .val (.int p3), .val (.int p4), .val (.int p5), .val (.int (p1.toUInt32.toUInt16.toUInt32.toInt32)), .val (.int (p2.toUInt32.toUInt16.toUInt32.toInt32)), .val (.int (p3.toUInt32.toUInt16.toUInt32.toInt32)), .val (.int (p4.toUInt32.toUInt16.toUInt32.toInt32)), .val (.int (p5.toUInt32.toUInt16.toUInt32.toInt32)), .val (.ref b2), .val (.ref b22)] [(.int (0 : Int32)), (.ref b22)])) := by
    intro t kt
    refine pre33 t ?_
    refine st35.trans ?_
    show Steps p.tables e below (T35.setTop (mkF m 52 #[.val (.int p1), .val (.int p2), .val (.int p3), .val (.int p4), .val (.int p5), .val (.int (p1.toUInt32.toUInt16.toUInt32.toInt32)), .val (.int (p2.toUInt32.toUInt16.toUInt32.toInt32)), .val (.int (p3.toUInt32.toUInt16.toUInt32.toInt32)), .val (.int (p4.toUInt32.toUInt16.toUInt32.toInt32)), .val (.int (p5.toUInt32.toUInt16.toUInt32.toInt32)), .val (.ref b2), .val (.ref b22)] [(.int (4 : Int32))])) _
    refine XS.iconst X35.here hx rfl (hb hby at_52) ?_
    show Steps p.tables e below (T35.setTop (mkF m 53 #[.val (.int p1), .val (.int p2), .val (.int p3), .val (.int p4), .val (.int p5), .val (.int (p1.toUInt32.toUInt16.toUInt32.toInt32)), .val (.int (p2.toUInt32.toUInt16.toUInt32.toInt32)), .val (.int (p3.toUInt32.toUInt16.toUInt32.toInt32)), .val (.int (p4.toUInt32.toUInt16.toUInt32.toInt32)), .val (.int (p5.toUInt32.toUInt16.toUInt32.toInt32)), .val (.ref b2), .val (.ref b22)] [(.int (4 : Int32)), (.int (4 : Int32))])) _
    refine XS.icmpNo X35.here hx rfl (hb hby at_53) rfl (teq (by decide : (4 : Int32) = (4 : Int32))).2 ?_
    show Steps p.tables e below (T35.setTop (mkF m 56 #[.val (.int p1), .val (.int p2), .val (.int p3), .val (.int p4), .val (.int p5), .val (.int (p1.toUInt32.toUInt16.toUInt32.toInt32)), .val (.int (p2.toUInt32.toUInt16.toUInt32.toInt32)), .val (.int (p3.toUInt32.toUInt16.toUInt32.toInt32)), .val (.int (p4.toUInt32.toUInt16.toUInt32.toInt32)), .val (.int (p5.toUInt32.toUInt16.toUInt32.toInt32)), .val (.ref b2), .val (.ref b22)] [])) _
    refine XS.aload X35.here hx rfl (hb hby at_56) rfl rfl ?_
    show Steps p.tables e below (T35.setTop (mkF m 58 #[.val (.int p1), .val (.int p2), .val (.int p3), .val (.int p4), .val (.int p5), .val (.int (p1.toUInt32.toUInt16.toUInt32.toInt32)), .val (.int (p2.toUInt32.toUInt16.toUInt32.toInt32)), .val (.int (p3.toUInt32.toUInt16.toUInt32.toInt32)), .val (.int (p4.toUInt32.toUInt16.toUInt32.toInt32)), .val (.int (p5.toUInt32.toUInt16.toUInt32.toInt32)), .val (.ref b2), .val (.ref b22)] [(.ref b22)])) _
    refine XS.iconst X35.here hx rfl (hb hby at_58) ?_
    show Steps p.tables e below (T35.setTop (mkF m 59 #[.val (.int p1), .val (.int p2), .val (.int p3), .val (.int p4), .val (.int p5), .val (.int (p1.toUInt32.toUInt16.toUInt32.toInt32)), .val (.int (p2.toUInt32.toUInt16.toUInt32.toInt32)), .val (.int (p3.toUInt32.toUInt16.toUInt32.toInt32)), .val (.int (p4.toUInt32.toUInt16.toUInt32.toInt32)), .val (.int (p5.toUInt32.toUInt16.toUInt32.toInt32)), .val (.ref b2), .val (.ref b22)] [(.int (0 : Int32)), (.ref b22)])) _
    exact kt
  obtain ⟨cq37, kq37, qa37, qb37, qc37⟩ := isOf hZ eq35 (g27).1
  obtain ⟨_, _, ⟨T37, L37, k37, n37⟩, -, X37, ⟨Lc37, hQ37, l37, y37, z37⟩, st37⟩ := X35.virtualBack hx (y := (⟨"java/lang/String", "charAt", "(I)C"⟩ : MethodName)) (z := (⟨"java/lang/String", "charAt", "(I)C"⟩ : MethodName)) hown (mvT hZ (hw _ (own_w 67 rfl))) (mvT hZ (hw _ (own_w 68 rfl))) (notFace_of_selects (args := #[]) (mvT hZ (hw _ (own_w 70 rfl)))) (mvT hZ (hw _ (own_w 70 rfl))) (mvT hZ (hw _ (own_w 69 rfl))) (by decide) (backOf (W := 0) (rmcharAt_0_4 l Z a0 hw [] b22 wC wF vb23 kb24 (nar .char (nar .char (p2.toUInt32.toUInt16.toUInt32.toInt32))) (nar .char (nar .char (p3.toUInt32.toUInt16.toUInt32.toInt32))) (nar .char (nar .char (p4.toUInt32.toUInt16.toUInt32.toInt32))) (nar .char (nar .char (p5.toUInt32.toUInt16.toUInt32.toInt32))) T21.heap n0 zs32 f34 SC hC SA SH SL SF hF g27) hZ (hw _ (own_w 71 rfl)) (hw _ (own_w 31 rfl)) (by decide) (by decide)) qa37 qc37 (g := (mkF m 59 #[.val (.int p1), .val (.int p2), .val (.int p3), .val (.int p4), .val (.int p5), .val (.int (p1.toUInt32.toUInt16.toUInt32.toInt32)), .val (.int (p2.toUInt32.toUInt16.toUInt32.toInt32)), .val (.int (p3.toUInt32.toUInt16.toUInt32.toInt32)), .val (.int (p4.toUInt32.toUInt16.toUInt32.toInt32)), .val (.int (p5.toUInt32.toUInt16.toUInt32.toInt32)), .val (.ref b2), .val (.ref b22)] [(.int (0 : Int32)), (.ref b22)])) rfl (by rw [hml]; rfl) (Steps.refl _) (argsL := [(.int (0 : Int32))]) (rest := []) (lenOf pd_19 rfl) rfl (by show 2 * 0 + _ ≤ _; exact Nat.le_of_eq rfl) (hb hby at_59) (fun _ _ => ⟨rfl, eq35, (by decide : 5 + 0 ≤ _), (by decide : 25 + 0 ≤ _)⟩)
  dsimp only [Pt.U, Pt.locs, Pt.cells, Pt.slots] at X37 l37 y37 z37 st37 hQ37
  subst l37 y37 z37
  obtain ⟨rfl, Nq37, eq37⟩ := hQ37
  have N37 := Fr.app N35 Nq37
  have pre38 : own_Go p e below S0 (T37.setTop (mkF m 70 #[.val (.int p1), .val (.int p2), .val (.int p3), .val (.int p4), .val (.int p5), .val (.int (p1.toUInt32.toUInt16.toUInt32.toInt32)), .val (.int (p2.toUInt32.toUInt16.toUInt32.toInt32)), .val (.int (p3.toUInt32.toUInt16.toUInt32.toInt32)), .val (.int (p4.toUInt32.toUInt16.toUInt32.toInt32)), .val (.int (p5.toUInt32.toUInt16.toUInt32.toInt32)), .val (.ref b2), .val (.ref b22)] [(.int (1 : Int32)), (.ref b22)])) := by
    intro t kt
    refine pre36 t ?_
    refine st37.trans ?_
    show Steps p.tables e below (T37.setTop (mkF m 62 #[.val (.int p1), .val (.int p2), .val (.int p3), .val (.int p4), .val (.int p5), .val (.int (p1.toUInt32.toUInt16.toUInt32.toInt32)), .val (.int (p2.toUInt32.toUInt16.toUInt32.toInt32)), .val (.int (p3.toUInt32.toUInt16.toUInt32.toInt32)), .val (.int (p4.toUInt32.toUInt16.toUInt32.toInt32)), .val (.int (p5.toUInt32.toUInt16.toUInt32.toInt32)), .val (.ref b2), .val (.ref b22)] [(.int (nar .char (nar .char (p2.toUInt32.toUInt16.toUInt32.toInt32))))])) _
    refine XS.iload X37.here hx rfl (hb hby at_62) rfl ?_
    show Steps p.tables e below (T37.setTop (mkF m 64 #[.val (.int p1), .val (.int p2), .val (.int p3), .val (.int p4), .val (.int p5), .val (.int (p1.toUInt32.toUInt16.toUInt32.toInt32)), .val (.int (p2.toUInt32.toUInt16.toUInt32.toInt32)), .val (.int (p3.toUInt32.toUInt16.toUInt32.toInt32)), .val (.int (p4.toUInt32.toUInt16.toUInt32.toInt32)), .val (.int (p5.toUInt32.toUInt16.toUInt32.toInt32)), .val (.ref b2), .val (.ref b22)] [(.int (p2.toUInt32.toUInt16.toUInt32.toInt32)), (.int (nar .char (nar .char (p2.toUInt32.toUInt16.toUInt32.toInt32))))])) _
    refine XS.icmpNo X37.here hx rfl (hb hby at_64) rfl (teq (own_nn _)).2 ?_
    show Steps p.tables e below (T37.setTop (mkF m 67 #[.val (.int p1), .val (.int p2), .val (.int p3), .val (.int p4), .val (.int p5), .val (.int (p1.toUInt32.toUInt16.toUInt32.toInt32)), .val (.int (p2.toUInt32.toUInt16.toUInt32.toInt32)), .val (.int (p3.toUInt32.toUInt16.toUInt32.toInt32)), .val (.int (p4.toUInt32.toUInt16.toUInt32.toInt32)), .val (.int (p5.toUInt32.toUInt16.toUInt32.toInt32)), .val (.ref b2), .val (.ref b22)] [])) _
    refine XS.aload X37.here hx rfl (hb hby at_67) rfl rfl ?_
    show Steps p.tables e below (T37.setTop (mkF m 69 #[.val (.int p1), .val (.int p2), .val (.int p3), .val (.int p4), .val (.int p5), .val (.int (p1.toUInt32.toUInt16.toUInt32.toInt32)), .val (.int (p2.toUInt32.toUInt16.toUInt32.toInt32)), .val (.int (p3.toUInt32.toUInt16.toUInt32.toInt32)), .val (.int (p4.toUInt32.toUInt16.toUInt32.toInt32)), .val (.int (p5.toUInt32.toUInt16.toUInt32.toInt32)), .val (.ref b2), .val (.ref b22)] [(.ref b22)])) _
    refine XS.iconst X37.here hx rfl (hb hby at_69) ?_
    show Steps p.tables e below (T37.setTop (mkF m 70 #[.val (.int p1), .val (.int p2), .val (.int p3), .val (.int p4), .val (.int p5), .val (.int (p1.toUInt32.toUInt16.toUInt32.toInt32)), .val (.int (p2.toUInt32.toUInt16.toUInt32.toInt32)), .val (.int (p3.toUInt32.toUInt16.toUInt32.toInt32)), .val (.int (p4.toUInt32.toUInt16.toUInt32.toInt32)), .val (.int (p5.toUInt32.toUInt16.toUInt32.toInt32)), .val (.ref b2), .val (.ref b22)] [(.int (1 : Int32)), (.ref b22)])) _
    exact kt
  obtain ⟨cq39, kq39, qa39, qb39, qc39⟩ := isOf hZ eq37 (g27).1
  obtain ⟨_, _, ⟨T39, L39, k39, n39⟩, -, X39, ⟨Lc39, hQ39, l39, y39, z39⟩, st39⟩ := X37.virtualBack hx (y := (⟨"java/lang/String", "charAt", "(I)C"⟩ : MethodName)) (z := (⟨"java/lang/String", "charAt", "(I)C"⟩ : MethodName)) hown (mvT hZ (hw _ (own_w 67 rfl))) (mvT hZ (hw _ (own_w 68 rfl))) (notFace_of_selects (args := #[]) (mvT hZ (hw _ (own_w 70 rfl)))) (mvT hZ (hw _ (own_w 70 rfl))) (mvT hZ (hw _ (own_w 69 rfl))) (by decide) (backOf (W := 0) (rmcharAt_1_4 l Z a0 hw [] b22 wC wF vb23 kb24 (nar .char (nar .char (p2.toUInt32.toUInt16.toUInt32.toInt32))) (nar .char (nar .char (p3.toUInt32.toUInt16.toUInt32.toInt32))) (nar .char (nar .char (p4.toUInt32.toUInt16.toUInt32.toInt32))) (nar .char (nar .char (p5.toUInt32.toUInt16.toUInt32.toInt32))) T21.heap n0 zs32 f34 SC hC SA SH SL SF hF g27) hZ (hw _ (own_w 71 rfl)) (hw _ (own_w 31 rfl)) (by decide) (by decide)) qa39 qc39 (g := (mkF m 70 #[.val (.int p1), .val (.int p2), .val (.int p3), .val (.int p4), .val (.int p5), .val (.int (p1.toUInt32.toUInt16.toUInt32.toInt32)), .val (.int (p2.toUInt32.toUInt16.toUInt32.toInt32)), .val (.int (p3.toUInt32.toUInt16.toUInt32.toInt32)), .val (.int (p4.toUInt32.toUInt16.toUInt32.toInt32)), .val (.int (p5.toUInt32.toUInt16.toUInt32.toInt32)), .val (.ref b2), .val (.ref b22)] [(.int (1 : Int32)), (.ref b22)])) rfl (by rw [hml]; rfl) (Steps.refl _) (argsL := [(.int (1 : Int32))]) (rest := []) (lenOf pd_19 rfl) rfl (by show 2 * 0 + _ ≤ _; exact Nat.le_of_eq rfl) (hb hby at_70) (fun _ _ => ⟨rfl, eq37, (by decide : 5 + 0 ≤ _), (by decide : 25 + 0 ≤ _)⟩)
  dsimp only [Pt.U, Pt.locs, Pt.cells, Pt.slots] at X39 l39 y39 z39 st39 hQ39
  subst l39 y39 z39
  obtain ⟨rfl, Nq39, eq39⟩ := hQ39
  have N39 := Fr.app N37 Nq39
  have pre40 : own_Go p e below S0 (T39.setTop (mkF m 81 #[.val (.int p1), .val (.int p2), .val (.int p3), .val (.int p4), .val (.int p5), .val (.int (p1.toUInt32.toUInt16.toUInt32.toInt32)), .val (.int (p2.toUInt32.toUInt16.toUInt32.toInt32)), .val (.int (p3.toUInt32.toUInt16.toUInt32.toInt32)), .val (.int (p4.toUInt32.toUInt16.toUInt32.toInt32)), .val (.int (p5.toUInt32.toUInt16.toUInt32.toInt32)), .val (.ref b2), .val (.ref b22)] [(.int (2 : Int32)), (.ref b22)])) := by
    intro t kt
    refine pre38 t ?_
    refine st39.trans ?_
    show Steps p.tables e below (T39.setTop (mkF m 73 #[.val (.int p1), .val (.int p2), .val (.int p3), .val (.int p4), .val (.int p5), .val (.int (p1.toUInt32.toUInt16.toUInt32.toInt32)), .val (.int (p2.toUInt32.toUInt16.toUInt32.toInt32)), .val (.int (p3.toUInt32.toUInt16.toUInt32.toInt32)), .val (.int (p4.toUInt32.toUInt16.toUInt32.toInt32)), .val (.int (p5.toUInt32.toUInt16.toUInt32.toInt32)), .val (.ref b2), .val (.ref b22)] [(.int (nar .char (nar .char (p3.toUInt32.toUInt16.toUInt32.toInt32))))])) _
    refine XS.iload X39.here hx rfl (hb hby at_73) rfl ?_
    show Steps p.tables e below (T39.setTop (mkF m 75 #[.val (.int p1), .val (.int p2), .val (.int p3), .val (.int p4), .val (.int p5), .val (.int (p1.toUInt32.toUInt16.toUInt32.toInt32)), .val (.int (p2.toUInt32.toUInt16.toUInt32.toInt32)), .val (.int (p3.toUInt32.toUInt16.toUInt32.toInt32)), .val (.int (p4.toUInt32.toUInt16.toUInt32.toInt32)), .val (.int (p5.toUInt32.toUInt16.toUInt32.toInt32)), .val (.ref b2), .val (.ref b22)] [(.int (p3.toUInt32.toUInt16.toUInt32.toInt32)), (.int (nar .char (nar .char (p3.toUInt32.toUInt16.toUInt32.toInt32))))])) _
    refine XS.icmpNo X39.here hx rfl (hb hby at_75) rfl (teq (own_nn _)).2 ?_
    show Steps p.tables e below (T39.setTop (mkF m 78 #[.val (.int p1), .val (.int p2), .val (.int p3), .val (.int p4), .val (.int p5), .val (.int (p1.toUInt32.toUInt16.toUInt32.toInt32)), .val (.int (p2.toUInt32.toUInt16.toUInt32.toInt32)), .val (.int (p3.toUInt32.toUInt16.toUInt32.toInt32)), .val (.int (p4.toUInt32.toUInt16.toUInt32.toInt32)), .val (.int (p5.toUInt32.toUInt16.toUInt32.toInt32)), .val (.ref b2), .val (.ref b22)] [])) _
    refine XS.aload X39.here hx rfl (hb hby at_78) rfl rfl ?_
    show Steps p.tables e below (T39.setTop (mkF m 80 #[.val (.int p1), .val (.int p2), .val (.int p3), .val (.int p4), .val (.int p5), .val (.int (p1.toUInt32.toUInt16.toUInt32.toInt32)), .val (.int (p2.toUInt32.toUInt16.toUInt32.toInt32)), .val (.int (p3.toUInt32.toUInt16.toUInt32.toInt32)), .val (.int (p4.toUInt32.toUInt16.toUInt32.toInt32)), .val (.int (p5.toUInt32.toUInt16.toUInt32.toInt32)), .val (.ref b2), .val (.ref b22)] [(.ref b22)])) _
    refine XS.iconst X39.here hx rfl (hb hby at_80) ?_
    show Steps p.tables e below (T39.setTop (mkF m 81 #[.val (.int p1), .val (.int p2), .val (.int p3), .val (.int p4), .val (.int p5), .val (.int (p1.toUInt32.toUInt16.toUInt32.toInt32)), .val (.int (p2.toUInt32.toUInt16.toUInt32.toInt32)), .val (.int (p3.toUInt32.toUInt16.toUInt32.toInt32)), .val (.int (p4.toUInt32.toUInt16.toUInt32.toInt32)), .val (.int (p5.toUInt32.toUInt16.toUInt32.toInt32)), .val (.ref b2), .val (.ref b22)] [(.int (2 : Int32)), (.ref b22)])) _
    exact kt
  obtain ⟨cq41, kq41, qa41, qb41, qc41⟩ := isOf hZ eq39 (g27).1
  obtain ⟨_, _, ⟨T41, L41, k41, n41⟩, -, X41, ⟨Lc41, hQ41, l41, y41, z41⟩, st41⟩ := X39.virtualBack hx (y := (⟨"java/lang/String", "charAt", "(I)C"⟩ : MethodName)) (z := (⟨"java/lang/String", "charAt", "(I)C"⟩ : MethodName)) hown (mvT hZ (hw _ (own_w 67 rfl))) (mvT hZ (hw _ (own_w 68 rfl))) (notFace_of_selects (args := #[]) (mvT hZ (hw _ (own_w 70 rfl)))) (mvT hZ (hw _ (own_w 70 rfl))) (mvT hZ (hw _ (own_w 69 rfl))) (by decide) (backOf (W := 0) (rmcharAt_2_4 l Z a0 hw [] b22 wC wF vb23 kb24 (nar .char (nar .char (p2.toUInt32.toUInt16.toUInt32.toInt32))) (nar .char (nar .char (p3.toUInt32.toUInt16.toUInt32.toInt32))) (nar .char (nar .char (p4.toUInt32.toUInt16.toUInt32.toInt32))) (nar .char (nar .char (p5.toUInt32.toUInt16.toUInt32.toInt32))) T21.heap n0 zs32 f34 SC hC SA SH SL SF hF g27) hZ (hw _ (own_w 71 rfl)) (hw _ (own_w 31 rfl)) (by decide) (by decide)) qa41 qc41 (g := (mkF m 81 #[.val (.int p1), .val (.int p2), .val (.int p3), .val (.int p4), .val (.int p5), .val (.int (p1.toUInt32.toUInt16.toUInt32.toInt32)), .val (.int (p2.toUInt32.toUInt16.toUInt32.toInt32)), .val (.int (p3.toUInt32.toUInt16.toUInt32.toInt32)), .val (.int (p4.toUInt32.toUInt16.toUInt32.toInt32)), .val (.int (p5.toUInt32.toUInt16.toUInt32.toInt32)), .val (.ref b2), .val (.ref b22)] [(.int (2 : Int32)), (.ref b22)])) rfl (by rw [hml]; rfl) (Steps.refl _) (argsL := [(.int (2 : Int32))]) (rest := []) (lenOf pd_19 rfl) rfl (by show 2 * 0 + _ ≤ _; exact Nat.le_of_eq rfl) (hb hby at_81) (fun _ _ => ⟨rfl, eq39, (by decide : 5 + 0 ≤ _), (by decide : 25 + 0 ≤ _)⟩)
  dsimp only [Pt.U, Pt.locs, Pt.cells, Pt.slots] at X41 l41 y41 z41 st41 hQ41
  subst l41 y41 z41
  obtain ⟨rfl, Nq41, eq41⟩ := hQ41
  have N41 := Fr.app N39 Nq41
  have pre42 : own_Go p e below S0 (T41.setTop (mkF m 92 #[.val (.int p1), .val (.int p2), .val (.int p3), .val (.int p4), .val (.int p5), .val (.int (p1.toUInt32.toUInt16.toUInt32.toInt32)), .val (.int (p2.toUInt32.toUInt16.toUInt32.toInt32)), .val (.int (p3.toUInt32.toUInt16.toUInt32.toInt32)), .val (.int (p4.toUInt32.toUInt16.toUInt32.toInt32)), .val (.int (p5.toUInt32.toUInt16.toUInt32.toInt32)), .val (.ref b2), .val (.ref b22)] [(.int (3 : Int32)), (.ref b22)])) := by
    intro t kt
    refine pre40 t ?_
    refine st41.trans ?_
    show Steps p.tables e below (T41.setTop (mkF m 84 #[.val (.int p1), .val (.int p2), .val (.int p3), .val (.int p4), .val (.int p5), .val (.int (p1.toUInt32.toUInt16.toUInt32.toInt32)), .val (.int (p2.toUInt32.toUInt16.toUInt32.toInt32)), .val (.int (p3.toUInt32.toUInt16.toUInt32.toInt32)), .val (.int (p4.toUInt32.toUInt16.toUInt32.toInt32)), .val (.int (p5.toUInt32.toUInt16.toUInt32.toInt32)), .val (.ref b2), .val (.ref b22)] [(.int (nar .char (nar .char (p4.toUInt32.toUInt16.toUInt32.toInt32))))])) _
    refine XS.iload X41.here hx rfl (hb hby at_84) rfl ?_
    show Steps p.tables e below (T41.setTop (mkF m 86 #[.val (.int p1), .val (.int p2), .val (.int p3), .val (.int p4), .val (.int p5), .val (.int (p1.toUInt32.toUInt16.toUInt32.toInt32)), .val (.int (p2.toUInt32.toUInt16.toUInt32.toInt32)), .val (.int (p3.toUInt32.toUInt16.toUInt32.toInt32)), .val (.int (p4.toUInt32.toUInt16.toUInt32.toInt32)), .val (.int (p5.toUInt32.toUInt16.toUInt32.toInt32)), .val (.ref b2), .val (.ref b22)] [(.int (p4.toUInt32.toUInt16.toUInt32.toInt32)), (.int (nar .char (nar .char (p4.toUInt32.toUInt16.toUInt32.toInt32))))])) _
    refine XS.icmpNo X41.here hx rfl (hb hby at_86) rfl (teq (own_nn _)).2 ?_
    show Steps p.tables e below (T41.setTop (mkF m 89 #[.val (.int p1), .val (.int p2), .val (.int p3), .val (.int p4), .val (.int p5), .val (.int (p1.toUInt32.toUInt16.toUInt32.toInt32)), .val (.int (p2.toUInt32.toUInt16.toUInt32.toInt32)), .val (.int (p3.toUInt32.toUInt16.toUInt32.toInt32)), .val (.int (p4.toUInt32.toUInt16.toUInt32.toInt32)), .val (.int (p5.toUInt32.toUInt16.toUInt32.toInt32)), .val (.ref b2), .val (.ref b22)] [])) _
    refine XS.aload X41.here hx rfl (hb hby at_89) rfl rfl ?_
    show Steps p.tables e below (T41.setTop (mkF m 91 #[.val (.int p1), .val (.int p2), .val (.int p3), .val (.int p4), .val (.int p5), .val (.int (p1.toUInt32.toUInt16.toUInt32.toInt32)), .val (.int (p2.toUInt32.toUInt16.toUInt32.toInt32)), .val (.int (p3.toUInt32.toUInt16.toUInt32.toInt32)), .val (.int (p4.toUInt32.toUInt16.toUInt32.toInt32)), .val (.int (p5.toUInt32.toUInt16.toUInt32.toInt32)), .val (.ref b2), .val (.ref b22)] [(.ref b22)])) _
    refine XS.iconst X41.here hx rfl (hb hby at_91) ?_
    show Steps p.tables e below (T41.setTop (mkF m 92 #[.val (.int p1), .val (.int p2), .val (.int p3), .val (.int p4), .val (.int p5), .val (.int (p1.toUInt32.toUInt16.toUInt32.toInt32)), .val (.int (p2.toUInt32.toUInt16.toUInt32.toInt32)), .val (.int (p3.toUInt32.toUInt16.toUInt32.toInt32)), .val (.int (p4.toUInt32.toUInt16.toUInt32.toInt32)), .val (.int (p5.toUInt32.toUInt16.toUInt32.toInt32)), .val (.ref b2), .val (.ref b22)] [(.int (3 : Int32)), (.ref b22)])) _
    exact kt
  obtain ⟨cq43, kq43, qa43, qb43, qc43⟩ := isOf hZ eq41 (g27).1
  obtain ⟨_, _, ⟨T43, L43, k43, n43⟩, -, X43, ⟨Lc43, hQ43, l43, y43, z43⟩, st43⟩ := X41.virtualBack hx (y := (⟨"java/lang/String", "charAt", "(I)C"⟩ : MethodName)) (z := (⟨"java/lang/String", "charAt", "(I)C"⟩ : MethodName)) hown (mvT hZ (hw _ (own_w 67 rfl))) (mvT hZ (hw _ (own_w 68 rfl))) (notFace_of_selects (args := #[]) (mvT hZ (hw _ (own_w 70 rfl)))) (mvT hZ (hw _ (own_w 70 rfl))) (mvT hZ (hw _ (own_w 69 rfl))) (by decide) (backOf (W := 0) (rmcharAt_3_4 l Z a0 hw [] b22 wC wF vb23 kb24 (nar .char (nar .char (p2.toUInt32.toUInt16.toUInt32.toInt32))) (nar .char (nar .char (p3.toUInt32.toUInt16.toUInt32.toInt32))) (nar .char (nar .char (p4.toUInt32.toUInt16.toUInt32.toInt32))) (nar .char (nar .char (p5.toUInt32.toUInt16.toUInt32.toInt32))) T21.heap n0 zs32 f34 SC hC SA SH SL SF hF g27) hZ (hw _ (own_w 71 rfl)) (hw _ (own_w 31 rfl)) (by decide) (by decide)) qa43 qc43 (g := (mkF m 92 #[.val (.int p1), .val (.int p2), .val (.int p3), .val (.int p4), .val (.int p5), .val (.int (p1.toUInt32.toUInt16.toUInt32.toInt32)), .val (.int (p2.toUInt32.toUInt16.toUInt32.toInt32)), .val (.int (p3.toUInt32.toUInt16.toUInt32.toInt32)), .val (.int (p4.toUInt32.toUInt16.toUInt32.toInt32)), .val (.int (p5.toUInt32.toUInt16.toUInt32.toInt32)), .val (.ref b2), .val (.ref b22)] [(.int (3 : Int32)), (.ref b22)])) rfl (by rw [hml]; rfl) (Steps.refl _) (argsL := [(.int (3 : Int32))]) (rest := []) (lenOf pd_19 rfl) rfl (by show 2 * 0 + _ ≤ _; exact Nat.le_of_eq rfl) (hb hby at_92) (fun _ _ => ⟨rfl, eq41, (by decide : 5 + 0 ≤ _), (by decide : 25 + 0 ≤ _)⟩)
  dsimp only [Pt.U, Pt.locs, Pt.cells, Pt.slots] at X43 l43 y43 z43 st43 hQ43
  subst l43 y43 z43
  obtain ⟨rfl, Nq43, eq43⟩ := hQ43
  have N43 := Fr.app N41 Nq43
  have pre44 : own_Go p e below S0 (T43.setTop (mkF m 105 #[.val (.int p1), .val (.int p2), .val (.int p3), .val (.int p4), .val (.int p5), .val (.int (p1.toUInt32.toUInt16.toUInt32.toInt32)), .val (.int (p2.toUInt32.toUInt16.toUInt32.toInt32)), .val (.int (p3.toUInt32.toUInt16.toUInt32.toInt32)), .val (.int (p4.toUInt32.toUInt16.toUInt32.toInt32)), .val (.int (p5.toUInt32.toUInt16.toUInt32.toInt32)), .val (.ref b2), .val (.ref b22)] [(.int (1 : Int32))])) := by
    intro t kt
    refine pre42 t ?_
    refine st43.trans ?_
    show Steps p.tables e below (T43.setTop (mkF m 95 #[.val (.int p1), .val (.int p2), .val (.int p3), .val (.int p4), .val (.int p5), .val (.int (p1.toUInt32.toUInt16.toUInt32.toInt32)), .val (.int (p2.toUInt32.toUInt16.toUInt32.toInt32)), .val (.int (p3.toUInt32.toUInt16.toUInt32.toInt32)), .val (.int (p4.toUInt32.toUInt16.toUInt32.toInt32)), .val (.int (p5.toUInt32.toUInt16.toUInt32.toInt32)), .val (.ref b2), .val (.ref b22)] [(.int (nar .char (nar .char (p5.toUInt32.toUInt16.toUInt32.toInt32))))])) _
    refine XS.iload X43.here hx rfl (hb hby at_95) rfl ?_
    show Steps p.tables e below (T43.setTop (mkF m 97 #[.val (.int p1), .val (.int p2), .val (.int p3), .val (.int p4), .val (.int p5), .val (.int (p1.toUInt32.toUInt16.toUInt32.toInt32)), .val (.int (p2.toUInt32.toUInt16.toUInt32.toInt32)), .val (.int (p3.toUInt32.toUInt16.toUInt32.toInt32)), .val (.int (p4.toUInt32.toUInt16.toUInt32.toInt32)), .val (.int (p5.toUInt32.toUInt16.toUInt32.toInt32)), .val (.ref b2), .val (.ref b22)] [(.int (p5.toUInt32.toUInt16.toUInt32.toInt32)), (.int (nar .char (nar .char (p5.toUInt32.toUInt16.toUInt32.toInt32))))])) _
    refine XS.icmpNo X43.here hx rfl (hb hby at_97) rfl (teq (own_nn _)).2 ?_
    show Steps p.tables e below (T43.setTop (mkF m 100 #[.val (.int p1), .val (.int p2), .val (.int p3), .val (.int p4), .val (.int p5), .val (.int (p1.toUInt32.toUInt16.toUInt32.toInt32)), .val (.int (p2.toUInt32.toUInt16.toUInt32.toInt32)), .val (.int (p3.toUInt32.toUInt16.toUInt32.toInt32)), .val (.int (p4.toUInt32.toUInt16.toUInt32.toInt32)), .val (.int (p5.toUInt32.toUInt16.toUInt32.toInt32)), .val (.ref b2), .val (.ref b22)] [])) _
    refine XS.iconst X43.here hx rfl (hb hby at_100) ?_
    show Steps p.tables e below (T43.setTop (mkF m 101 #[.val (.int p1), .val (.int p2), .val (.int p3), .val (.int p4), .val (.int p5), .val (.int (p1.toUInt32.toUInt16.toUInt32.toInt32)), .val (.int (p2.toUInt32.toUInt16.toUInt32.toInt32)), .val (.int (p3.toUInt32.toUInt16.toUInt32.toInt32)), .val (.int (p4.toUInt32.toUInt16.toUInt32.toInt32)), .val (.int (p5.toUInt32.toUInt16.toUInt32.toInt32)), .val (.ref b2), .val (.ref b22)] [(.int (1 : Int32))])) _
    refine XS.goto X43.here hx rfl (pc0 := 101) (pc' := 105) rfl (hb hby at_101) (by decide) (by decide) ?_
    show Steps p.tables e below (T43.setTop (mkF m 105 #[.val (.int p1), .val (.int p2), .val (.int p3), .val (.int p4), .val (.int p5), .val (.int (p1.toUInt32.toUInt16.toUInt32.toInt32)), .val (.int (p2.toUInt32.toUInt16.toUInt32.toInt32)), .val (.int (p3.toUInt32.toUInt16.toUInt32.toInt32)), .val (.int (p4.toUInt32.toUInt16.toUInt32.toInt32)), .val (.int (p5.toUInt32.toUInt16.toUInt32.toInt32)), .val (.ref b2), .val (.ref b22)] [(.int (1 : Int32))])) _
    exact kt
  obtain ⟨fs, hr, hrun, hended, hW, hsame⟩ := X43.leave (v := some (.int (1 : Int32))) (fun h => by rw [Bd.returns] at h; cases h)
  refine ⟨_, _, fin _ (pre44 _ ?_), hrun, hended, _, _, rfl, ?_, ⟨_, rfl⟩, hW, hsame.mono (by decide) (by decide)⟩
  · exact retN X43 hx (t := .boolean) Bd.returns (by simp) (hb hby at_105) hr
  · show Q0 Z p1 p2 p3 p4 p5 wC wF h0 n0 _ T43.heap _
    rw [eq43]
    exact ⟨rfl, N43⟩

set_option maxRecDepth 65536 in
set_option maxHeartbeats 40000000 in
theorem comes_1 {Post : Tables → Env → Array Value → State → Outcome → State → Prop} (hpost : ∀ tb e args s v u, (limb_1_1.after args s (.returned v) u = true ∧ limb_1_2.after args s (.returned v) u = true ∧ True) → FrameEnd s (.returned v) u (Jvm.fieldLocs frame_1_writes args s ++ Jvm.arrayLocs frame_1_arrays args s ++ Jvm.staticLocs frame_1_statics s) 24 128 → Post tb e args s (.returned v) u) :
    ArmFor flags0 classFile x code maxLocals ret World_1 tables_1 room_1 Calls_1 rest_1 Pre_1 Post := by
  intro l hfl _ _ p e ha hc hk s m args below hf hA hF happ hP
  obtain ⟨hcalls, hrest, hpre⟩ := hP
  obtain ⟨-, -, -, hnamed, -, -, -, hat⟩ := (Spec.applies_iff hf).mp happ
  obtain ⟨hg, hn⟩ := and_e (Cond.before_iff.mp (show (Jvm.Cond.and given_1 narrow_1).before args s = true from hpre))
  obtain ⟨hcount, hg0⟩ := and_e hg
  obtain ⟨ga0, hg1⟩ := and_e hg0
  obtain ⟨ga1, hg2⟩ := and_e hg1
  obtain ⟨ga2, hg3⟩ := and_e hg2
  obtain ⟨ga3, hg4⟩ := and_e hg3
  have ga4 := hg4
  obtain ⟨w0, w1, w2, w3, w4, rfl⟩ : ∃ w0 w1 w2 w3 w4 : Value, args = #[w0, w1, w2, w3, w4] := by
    have hs : args.size = 5 := by simpa [Cond.value, given_1] using hcount
    obtain ⟨L⟩ := args
    match L, hs with
    | [w0, w1, w2, w3, w4], _ => exact ⟨w0, w1, w2, w3, w4, rfl⟩
  have hw := fun d (hd : d ∈ tables_1) => atoms_spec (ws := Jvm.Cond.code x code maxLocals ret :: tables_1) hat d (List.mem_cons_of_mem _ hd)
  have hfit : Fit s := fun {y c} hc i hi => by
    obtain ⟨ha, rfl⟩ := Array.getElem?_eq_some_iff.mp hc
    have q := List.all_eq_true.mp ((Array.all_eq_true_iff_forall_mem.mp hF) _ (Array.getElem_mem ha)) i (List.mem_range.mpr hi)
    simpa [Array.getElem?_eq_getElem hi] using q
  obtain ⟨hsets, hown0⟩ := atoms_of _ (rest_1_c_eq ▸ (show rest_1_c.before _ s = true from hrest))
  obtain ⟨i0, ei0⟩ := is_v ga0
  obtain rfl : w0 = (.int i0) := Option.some.inj ei0
  obtain ⟨i1, ei1⟩ := is_v ga1
  obtain rfl : w1 = (.int i1) := Option.some.inj ei1
  obtain ⟨i2, ei2⟩ := is_v ga2
  obtain rfl : w2 = (.int i2) := Option.some.inj ei2
  obtain ⟨i3, ei3⟩ := is_v ga3
  obtain rfl : w3 = (.int i3) := Option.some.inj ei3
  obtain ⟨i4, ei4⟩ := is_v ga4
  obtain rfl : w4 = (.int i4) := Option.some.inj ei4
  obtain ⟨wC, evC⟩ := is_v (Cond.before_iff.mp (hsets _ (List.mem_of_getElem? (i := 1) rfl)))
  have SC := Sta.start evC (Or.inl (hsets _ (List.mem_of_getElem? (i := 0) rfl)))
  have hC : ¬ wC = (0 : Int32) := fun q => by
    have z := not_v (Cond.before_iff.mp (hsets _ (List.mem_of_getElem? (i := 2) rfl)))
    exact absurd ((eq_i evC (Term.int_eval 0) (by rw [q])).symm.trans z) (by decide)
  have SA := Sta.start (own_eqI (Cond.before_iff.mp (hsets _ (List.mem_of_getElem? (i := 12) rfl)))) (Or.inl (hsets _ (List.mem_of_getElem? (i := 11) rfl)))
  have SH := Sta.start (own_eqI (Cond.before_iff.mp (hsets _ (List.mem_of_getElem? (i := 15) rfl)))) (Or.inl (hsets _ (List.mem_of_getElem? (i := 14) rfl)))
  have SL := Sta.start (own_eqI (Cond.before_iff.mp (hsets _ (List.mem_of_getElem? (i := 18) rfl)))) (Or.inl (hsets _ (List.mem_of_getElem? (i := 17) rfl)))
  obtain ⟨wF, evF, hF⟩ := isR_v (Cond.before_iff.mp (hsets _ (List.mem_of_getElem? (i := 8) rfl)))
  have SF := Sta.start evF (Or.inl (hsets _ (List.mem_of_getElem? (i := 7) rfl)))
  obtain ⟨n, o, h1, h2, h3, _, L, rfl, ⟨rfl, N⟩, hq⟩ := rm0 l s _ hw tables_1 i0 i1 i2 i3 i4 wC wF s.heap s.heap.size (Nat.le_refl _) (Old.start s) SC hC SA SH SL SF hF p e ha hc hk s m _ below hf ((Spec.applies_iff_loose hf).mp happ).1 ⟨rfl, State.Warmed39.refl s, rfl⟩ trivial
  refine ⟨n, _, h1, h2, h3, hpost _ _ _ _ _ _ ⟨Cond.after_iff.mpr rfl, Cond.after_iff.mpr (eq_i res_at (Term.int_eval (1)) rfl), trivial⟩ ⟨hq.1, hq.2.1, (hq.2.2.sift fun y hy => Or.inr (N y hy)).mono (by decide) (by decide)⟩⟩
theorem main_1_1 : Claimed_1_1 := comes_1 fun _ _ _ _ _ _ h hF => ⟨h.1, hF⟩
theorem main_1_2 : Claimed_1_2 := comes_1 fun _ _ _ _ _ _ h hF => ⟨h.2.1, hF⟩

end Jvm.Pilot.@@N@@
namespace Jvm.Pilot.@@N@@
open Jvm Jvm.ClassFile Sem Op Lib Jvm.Free Jvm.Stand Jvm.Pilot.@@N@@.Jvm.D
/-! MADE BY PROGRAM (witnessworld.py) out of the Statement's table words and the real class files: 21 classes; the members and pool entries that the words name. The judged class is class 1, her method 1. -/
namespace start1
open Jvm.ClassFile
def u (s : String) : CpInfo := .utf8 (stringToUtf16 s)
/-- a pool by its gaps: so many unusable entries, then the entry; so many at the end -/
def gap : Nat → List CpInfo → List CpInfo
  | 0, r => r
  | n + 1, r => .unusable :: gap n r
def poolList (es : List (Nat × CpInfo)) (last : Nat) : List CpInfo := es.foldr (fun e r => gap e.1 (e.2 :: r)) (gap last [])
def pool (es : List (Nat × CpInfo)) (last : Nat) : Array CpInfo := ⟨poolList es last⟩
def fileOf (pool : Array CpInfo) (this : Nat) (attrs : Array Attribute := #[]) (ms : Array MethodInfo := #[]) (fl : Nat := 33) (sup : Nat := 0) (ifs : Array Nat := #[]) (fds : Array FieldInfo := #[]) : ClassFile where
  minorVersion := 0
  majorVersion := 65
  constantPool := pool
  accessFlags := fl
  thisClass := this
  superClass := sup
  interfaces := ifs
  fields := fds
  methods := ms
  attributes := attrs
def plain (name : String) (sup : Option ClassId) : Class where
  name := name
  kind := .ordinary
  loader := none
  accessFlags := 33
  super := sup
  interfaces := #[]
  cf := none
  fields := #[]
  methods := #[]
  instanceTypes := #[]
  staticTypes := #[]
  resolved := #[]
  callSites := []
  init := .initialized
  statics := none
  mirror := none

def pool0 : Array CpInfo := pool [(5, u "<init>"), (0, u "()V"), (1, .class_ 10), (1, u "java/lang/Object")] 113

def k0c0 : Code := { maxStack := 0, maxLocals := 1, code := object_method_1_code, exceptionTable := #[], attributes := #[] }
def k0m0 : Method := { name := "<init>", desc := "()V", sig := { parameters := [], returnType := none }, accessFlags := 1, code := some k0c0 }
/-- java/lang/Object -/
def k0 : Class := { plain "java/lang/Object" none with
  accessFlags := 33
  interfaces := #[]
  cf := some (fileOf pool0 8 #[] #[{ accessFlags := 1, nameIndex := 5, descriptorIndex := 6, attributes := #[] }] 33 0 #[] #[])
  fields := #[]
  methods := #[k0m0]
  instanceTypes := #[]
  staticTypes := #[]
  resolved := Array.replicate 124 none
  statics := none }

def pool1 : Array CpInfo := pool [(2, .class_ 4), (1, u "java/lang/Object"), (0, u "<init>"), (0, u "()V"), (0, .class_ 8), (0, u "com/example/refertario/refertario/hl7/Delimiters"), (0, .methodref 7 10), (0, .nameAndType 5 11), (0, u "(CCCCC)V"), (0, .methodref 7 13), (0, .nameAndType 14 15), (0, u "encodingCharacters"), (0, u "()Ljava/lang/String;"), (0, .methodref 17 18), (0, .class_ 19), (0, .nameAndType 20 21), (0, u "java/lang/String"), (0, u "length"), (0, u "()I"), (0, .methodref 17 23), (0, .nameAndType 24 25), (0, u "charAt"), (0, u "(I)C"), (0, .class_ 27), (0, u "com/example/refertario/refertario/hl7/DelimitersEncodingCharactersPinLaw"), (2, u "law"), (0, u "(IIIII)Z")] 3

def k1m0 : Method := { name := "<init>", desc := "()V", sig := { parameters := [], returnType := none }, accessFlags := 1, code := none }
def k1c1 : Code := { maxStack := 7, maxLocals := 12, code := code, exceptionTable := #[], attributes := #[] }
def k1m1 : Method := { name := "law", desc := "(IIIII)Z", sig := { parameters := [.int, .int, .int, .int, .int], returnType := some .boolean }, accessFlags := 9, code := some k1c1 }
/-- com/example/refertario/refertario/hl7/DelimitersEncodingCharactersPinLaw -/
def k1 : Class := { plain "com/example/refertario/refertario/hl7/DelimitersEncodingCharactersPinLaw" (some 0) with
  accessFlags := 49
  interfaces := #[]
  cf := some (fileOf pool1 26 #[] #[{ accessFlags := 1, nameIndex := 5, descriptorIndex := 6, attributes := #[] }, { accessFlags := 9, nameIndex := 30, descriptorIndex := 31, attributes := #[] }] 49 2 #[] #[])
  fields := #[]
  methods := #[k1m0, k1m1]
  instanceTypes := #[]
  staticTypes := #[]
  resolved := Array.replicate 35 none
  statics := none }

def pool2 : Array CpInfo := pool [(1, .methodref 2 3), (0, .class_ 4), (0, .nameAndType 5 6), (0, u "java/lang/Object"), (0, u "<init>"), (0, u "()V"), (0, .class_ 8), (0, u "java/lang/Record")] 13

def k2c0 : Code := { maxStack := 1, maxLocals := 1, code := jdk_30_method_1_code, exceptionTable := #[], attributes := #[] }
def k2m0 : Method := { name := "<init>", desc := "()V", sig := { parameters := [], returnType := none }, accessFlags := 4, code := some k2c0 }
/-- java/lang/Record -/
def k2 : Class := { plain "java/lang/Record" (some 0) with
  accessFlags := 1057
  interfaces := #[]
  cf := some (fileOf pool2 7 #[] #[{ accessFlags := 4, nameIndex := 5, descriptorIndex := 6, attributes := #[] }] 1057 2 #[] #[])
  fields := #[]
  methods := #[k2m0]
  instanceTypes := #[]
  staticTypes := #[]
  resolved := Array.replicate 22 none
  statics := none }

def pool3 : Array CpInfo := pool [(1, .methodref 2 3), (0, .class_ 4), (0, .nameAndType 5 6), (0, u "java/lang/Record"), (0, u "<init>"), (0, u "()V"), (0, .fieldref 8 9), (0, .class_ 10), (0, .nameAndType 11 12), (0, u "com/example/refertario/refertario/hl7/Delimiters"), (0, u "field"), (0, u "C"), (0, .fieldref 8 14), (0, .nameAndType 15 12), (0, u "component"), (0, .fieldref 8 17), (0, .nameAndType 18 12), (0, u "repetition"), (0, .fieldref 8 20), (0, .nameAndType 21 12), (0, u "escape"), (0, .fieldref 8 23), (0, .nameAndType 24 12), (0, u "subcomponent"), (0, .class_ 26), (0, u "java/lang/String"), (0, .methodref 25 28), (0, .nameAndType 5 29), (0, u "([C)V"), (40, u "()Ljava/lang/String;"), (66, u "(CCCCC)V"), (3, u "encodingCharacters")] 29

def k3c0 : Code := { maxStack := 2, maxLocals := 6, code := prog_49_method_1_code, exceptionTable := #[], attributes := #[] }
def k3m0 : Method := { name := "<init>", desc := "(CCCCC)V", sig := { parameters := [.char, .char, .char, .char, .char], returnType := none }, accessFlags := 1, code := some k3c0 }
def k3c1 : Code := { maxStack := 6, maxLocals := 1, code := prog_49_method_2_code, exceptionTable := #[], attributes := #[] }
def k3m1 : Method := { name := "encodingCharacters", desc := "()Ljava/lang/String;", sig := { parameters := [], returnType := some (.object "java/lang/String") }, accessFlags := 1, code := some k3c1 }
/-- com/example/refertario/refertario/hl7/Delimiters -/
def k3 : Class := { plain "com/example/refertario/refertario/hl7/Delimiters" (some 2) with
  accessFlags := 49
  interfaces := #[]
  cf := some (fileOf pool3 8 #[] #[{ accessFlags := 1, nameIndex := 5, descriptorIndex := 137, attributes := #[] }, { accessFlags := 1, nameIndex := 141, descriptorIndex := 70, attributes := #[] }] 49 2 #[] #[{ accessFlags := 18, nameIndex := 11, descriptorIndex := 12, attributes := #[] }, { accessFlags := 18, nameIndex := 15, descriptorIndex := 12, attributes := #[] }, { accessFlags := 18, nameIndex := 18, descriptorIndex := 12, attributes := #[] }, { accessFlags := 18, nameIndex := 21, descriptorIndex := 12, attributes := #[] }, { accessFlags := 18, nameIndex := 24, descriptorIndex := 12, attributes := #[] }])
  fields := #[{ name := "field", type := .char, accessFlags := 18, slot := 0, constantValue := 0 }, { name := "component", type := .char, accessFlags := 18, slot := 1, constantValue := 0 }, { name := "repetition", type := .char, accessFlags := 18, slot := 2, constantValue := 0 }, { name := "escape", type := .char, accessFlags := 18, slot := 3, constantValue := 0 }, { name := "subcomponent", type := .char, accessFlags := 18, slot := 4, constantValue := 0 }]
  methods := #[k3m0, k3m1]
  instanceTypes := #[.char, .char, .char, .char, .char]
  staticTypes := #[]
  resolved := Array.replicate 171 none
  statics := none }

def pool4 : Array CpInfo := pool [(1, .class_ 2), (0, u "java/io/Serializable"), (0, .class_ 4), (0, u "java/lang/Object")] 2

/-- java/io/Serializable -/
def k4 : Class := { plain "java/io/Serializable" (some 0) with
  accessFlags := 1537
  interfaces := #[]
  cf := some (fileOf pool4 1 #[] #[] 1537 3 #[] #[])
  fields := #[]
  methods := #[]
  instanceTypes := #[]
  staticTypes := #[]
  resolved := Array.replicate 7 none
  statics := none }

def pool5 : Array CpInfo := pool [(1, .class_ 2), (0, u "java/lang/Comparable"), (0, .class_ 4), (0, u "java/lang/Object")] 7

/-- java/lang/Comparable -/
def k5 : Class := { plain "java/lang/Comparable" (some 0) with
  accessFlags := 1537
  interfaces := #[]
  cf := some (fileOf pool5 1 #[] #[] 1537 3 #[] #[])
  fields := #[]
  methods := #[]
  instanceTypes := #[]
  staticTypes := #[]
  resolved := Array.replicate 12 none
  statics := none }

def pool6 : Array CpInfo := pool [(2, .class_ 4), (1, u "java/lang/CharSequence"), (42, .class_ 48), (0, u "java/lang/CharSequence$1CodePointIterator"), (10, .class_ 60), (0, u "java/lang/CharSequence$1CharIterator"), (5, .class_ 67), (0, u "java/lang/Object")] 63

/-- java/lang/CharSequence -/
def k6 : Class := { plain "java/lang/CharSequence" (some 0) with
  accessFlags := 1537
  interfaces := #[]
  cf := some (fileOf pool6 2 #[.nestMembers #[47, 59]] #[] 1537 66 #[] #[])
  fields := #[]
  methods := #[]
  instanceTypes := #[]
  staticTypes := #[]
  resolved := Array.replicate 131 none
  statics := none }

def pool7 : Array CpInfo := pool [(1, .class_ 2), (0, u "java/lang/constant/Constable"), (0, .class_ 4), (0, u "java/lang/Object")] 6

/-- java/lang/constant/Constable -/
def k7 : Class := { plain "java/lang/constant/Constable" (some 0) with
  accessFlags := 1537
  interfaces := #[]
  cf := some (fileOf pool7 1 #[] #[] 1537 3 #[] #[])
  fields := #[]
  methods := #[]
  instanceTypes := #[]
  staticTypes := #[]
  resolved := Array.replicate 11 none
  statics := none }

def pool8 : Array CpInfo := pool [(1, .class_ 2), (0, u "java/lang/constant/ConstantDesc"), (0, .class_ 4), (0, u "java/lang/Object")] 32

/-- java/lang/constant/ConstantDesc -/
def k8 : Class := { plain "java/lang/constant/ConstantDesc" (some 0) with
  accessFlags := 1537
  interfaces := #[]
  cf := some (fileOf pool8 1 #[] #[] 1537 3 #[] #[])
  fields := #[]
  methods := #[]
  instanceTypes := #[]
  staticTypes := #[]
  resolved := Array.replicate 37 none
  statics := none }

def pool9 : Array CpInfo := pool [(1, .methodref 2 3), (0, .class_ 4), (0, .nameAndType 5 6), (0, u "java/lang/Object"), (0, u "<init>"), (0, u "()V"), (2, .fieldref 10 11), (0, .class_ 12), (0, .nameAndType 13 14), (0, u "java/lang/String"), (0, u "value"), (0, u "[B"), (0, .fieldref 10 16), (0, .nameAndType 17 18), (0, u "coder"), (0, u "B"), (2, u "hash"), (0, u "I"), (2, u "hashIsZero"), (0, u "Z"), (0, .methodref 10 28), (0, .nameAndType 5 29), (0, u "([CIILjava/lang/Void;)V"), (8, .fieldref 10 39), (0, .nameAndType 40 26), (0, u "COMPACT_STRINGS"), (1, .class_ 44), (1, u "java/lang/StringUTF16"), (0, u "compress"), (1, .methodref 42 48), (0, .nameAndType 49 50), (0, u "coderFromArrayLen"), (0, u "([BI)B"), (56, .class_ 109), (1, u "java/lang/StringLatin1"), (32, u "()Z"), (34, .methodref 42 178), (0, .nameAndType 45 179), (0, u "([CII)[B"), (154, u "()I"), (0, .methodref 10 336), (0, .nameAndType 17 337), (0, u "()B"), (25, u "([BI)C"), (27, u "(II)V"), (35, u "(I)C"), (64, .methodref 10 493), (0, .nameAndType 494 142), (0, u "isLatin1"), (0, .methodref 107 496), (0, .nameAndType 497 363), (0, u "charAt"), (0, .methodref 42 496), (2, u "checkIndex"), (5, u "length"), (67, .class_ 576), (0, u "java/lang/CharSequence"), (22, u "CASE_INSENSITIVE_ORDER"), (0, u "Ljava/util/Comparator;"), (409, u "([C)V"), (42, .fieldref 1054 1055), (0, .class_ 1056), (0, .nameAndType 1057 1058), (0, u "jdk/internal/util/Preconditions"), (0, u "SIOOBE_FORMATTER"), (0, u "Ljava/util/function/BiFunction;"), (0, .methodref 1054 1060), (0, .nameAndType 501 1061), (0, u "(IILjava/util/function/BiFunction;)I"), (39, u "serialPersistentFields"), (0, u "[Ljava/io/ObjectStreamField;"), (0, .class_ 1104), (0, u "java/lang/String$CaseInsensitiveComparator"), (1, .class_ 1107), (0, u "java/io/Serializable"), (0, .class_ 1109), (0, u "java/lang/Comparable"), (0, .class_ 1111), (0, u "java/lang/constant/Constable"), (0, .class_ 1113), (0, u "java/lang/constant/ConstantDesc"), (2, u "serialVersionUID"), (0, u "J"), (3, u "REPL"), (0, u "C"), (2, u "LATIN1"), (1, u "UTF16")] 323

def k9m0 : Method := { name := "<init>", desc := "()V", sig := { parameters := [], returnType := none }, accessFlags := 1, code := none }
def k9c1 : Code := { maxStack := 5, maxLocals := 2, code := jdk_42_method_3_code, exceptionTable := #[], attributes := #[] }
def k9m1 : Method := { name := "<init>", desc := "([C)V", sig := { parameters := [(.array .char)], returnType := none }, accessFlags := 1, code := some k9c1 }
def k9c2 : Code := { maxStack := 2, maxLocals := 1, code := jdk_42_method_54_code, exceptionTable := #[], attributes := #[] }
def k9m2 : Method := { name := "length", desc := "()I", sig := { parameters := [], returnType := some .int }, accessFlags := 1, code := some k9c2 }
def k9c3 : Code := { maxStack := 2, maxLocals := 2, code := jdk_42_method_56_code, exceptionTable := #[], attributes := #[] }
def k9m3 : Method := { name := "charAt", desc := "(I)C", sig := { parameters := [.int], returnType := some .char }, accessFlags := 1, code := some k9c3 }
def k9c4 : Code := { maxStack := 4, maxLocals := 6, code := jdk_42_method_149_code, exceptionTable := #[], attributes := #[] }
def k9m4 : Method := { name := "<init>", desc := "([CIILjava/lang/Void;)V", sig := { parameters := [(.array .char), .int, .int, (.object "java/lang/Void")], returnType := none }, accessFlags := 2, code := some k9c4 }
def k9c5 : Code := { maxStack := 1, maxLocals := 1, code := jdk_42_method_152_code, exceptionTable := #[], attributes := #[] }
def k9m5 : Method := { name := "coder", desc := "()B", sig := { parameters := [], returnType := some .byte }, accessFlags := 0, code := some k9c5 }
def k9c6 : Code := { maxStack := 1, maxLocals := 1, code := jdk_42_method_154_code, exceptionTable := #[], attributes := #[] }
def k9m6 : Method := { name := "isLatin1", desc := "()Z", sig := { parameters := [], returnType := some .boolean }, accessFlags := 0, code := some k9c6 }
def k9c7 : Code := { maxStack := 3, maxLocals := 2, code := jdk_42_method_155_code, exceptionTable := #[], attributes := #[] }
def k9m7 : Method := { name := "checkIndex", desc := "(II)V", sig := { parameters := [.int, .int], returnType := none }, accessFlags := 8, code := some k9c7 }
/-- java/lang/String -/
def k9 : Class := { plain "java/lang/String" (some 0) with
  accessFlags := 49
  interfaces := #[4, 5, 6, 7, 8]
  cf := some (fileOf pool9 10 #[.nestMembers #[1103]] #[{ accessFlags := 1, nameIndex := 5, descriptorIndex := 6, attributes := #[] }, { accessFlags := 1, nameIndex := 5, descriptorIndex := 1010, attributes := #[] }, { accessFlags := 1, nameIndex := 507, descriptorIndex := 334, attributes := #[] }, { accessFlags := 1, nameIndex := 497, descriptorIndex := 427, attributes := #[] }, { accessFlags := 2, nameIndex := 5, descriptorIndex := 29, attributes := #[] }, { accessFlags := 0, nameIndex := 17, descriptorIndex := 337, attributes := #[] }, { accessFlags := 0, nameIndex := 494, descriptorIndex := 142, attributes := #[] }, { accessFlags := 8, nameIndex := 501, descriptorIndex := 391, attributes := #[] }] 49 2 #[1106, 1108, 575, 1110, 1112] #[{ accessFlags := 18, nameIndex := 13, descriptorIndex := 14, attributes := #[] }, { accessFlags := 18, nameIndex := 17, descriptorIndex := 18, attributes := #[] }, { accessFlags := 2, nameIndex := 21, descriptorIndex := 22, attributes := #[] }, { accessFlags := 2, nameIndex := 25, descriptorIndex := 26, attributes := #[] }, { accessFlags := 26, nameIndex := 1116, descriptorIndex := 1117, attributes := #[] }, { accessFlags := 24, nameIndex := 40, descriptorIndex := 26, attributes := #[] }, { accessFlags := 26, nameIndex := 1101, descriptorIndex := 1102, attributes := #[] }, { accessFlags := 26, nameIndex := 1121, descriptorIndex := 1122, attributes := #[] }, { accessFlags := 25, nameIndex := 599, descriptorIndex := 600, attributes := #[] }, { accessFlags := 24, nameIndex := 1125, descriptorIndex := 18, attributes := #[] }, { accessFlags := 24, nameIndex := 1127, descriptorIndex := 18, attributes := #[] }])
  fields := #[{ name := "value", type := (.array .byte), accessFlags := 18, slot := 0, constantValue := 0 }, { name := "coder", type := .byte, accessFlags := 18, slot := 1, constantValue := 0 }, { name := "hash", type := .int, accessFlags := 2, slot := 2, constantValue := 0 }, { name := "hashIsZero", type := .boolean, accessFlags := 2, slot := 3, constantValue := 0 }, { name := "serialVersionUID", type := .long, accessFlags := 26, slot := 0, constantValue := 0 }, { name := "COMPACT_STRINGS", type := .boolean, accessFlags := 24, slot := 1, constantValue := 0 }, { name := "serialPersistentFields", type := (.array (.object "java/io/ObjectStreamField")), accessFlags := 26, slot := 2, constantValue := 0 }, { name := "REPL", type := .char, accessFlags := 26, slot := 3, constantValue := 0 }, { name := "CASE_INSENSITIVE_ORDER", type := (.object "java/util/Comparator"), accessFlags := 25, slot := 4, constantValue := 0 }, { name := "LATIN1", type := .byte, accessFlags := 24, slot := 5, constantValue := 0 }, { name := "UTF16", type := .byte, accessFlags := 24, slot := 6, constantValue := 0 }]
  methods := #[k9m0, k9m1, k9m2, k9m3, k9m4, k9m5, k9m6, k9m7]
  instanceTypes := #[(.array .byte), .byte, .int, .boolean]
  staticTypes := #[.long, .boolean, (.array (.object "java/io/ObjectStreamField")), .char, (.object "java/util/Comparator"), .byte, .byte]
  resolved := Array.replicate 1451 none
  statics := some 0 }

def pool10 : Array CpInfo := pool [(3, .class_ 4), (0, u "java/lang/String"), (1, .class_ 8), (1, u "java/lang/Object"), (0, u "<init>"), (0, u "()V"), (0, .methodref 12 13), (0, .class_ 14), (0, .nameAndType 15 16), (0, u "java/lang/StringUTF16"), (0, u "newBytesLength"), (0, u "(I)I"), (3, .integer 1073741823), (23, .fieldref 12 45), (0, .nameAndType 46 47), (0, u "$assertionsDisabled"), (0, u "Z"), (0, .methodref 12 49), (0, .nameAndType 50 51), (0, u "length"), (0, u "([B)I"), (7, .fieldref 12 60), (0, .nameAndType 61 62), (0, u "HI_BYTE_SHIFT"), (0, u "I"), (0, .fieldref 12 64), (0, .nameAndType 65 62), (0, u "LO_BYTE_SHIFT"), (1, .methodref 12 68), (0, .nameAndType 69 70), (0, u "checkIndex"), (0, u "(I[B)V"), (0, .methodref 12 72), (0, .nameAndType 73 74), (0, u "getChar"), (0, u "([BI)C"), (32, .methodref 12 108), (0, .nameAndType 109 110), (0, u "newBytesFor"), (0, u "(I)[B"), (0, .methodref 12 112), (0, .nameAndType 113 114), (0, u "putChar"), (0, u "([BII)V"), (0, .methodref 12 116), (0, .nameAndType 117 118), (0, u "compress"), (0, u "([CI[BII)I"), (0, .methodref 12 120), (0, .nameAndType 121 122), (0, u "toBytes"), (0, u "([CII)[B"), (138, u "coderFromArrayLen"), (0, u "([BI)B"), (106, .class_ 371), (1, u "java/lang/StringUTF16$LinesSpliterator"), (20, u "charAt"), (21, .methodref 3 415), (0, .nameAndType 69 416), (0, u "(II)V"), (13, u "MAX_LENGTH"), (196, .class_ 628), (0, u "java/lang/StringUTF16$CodePointsSpliterator"), (0, .class_ 630), (0, u "java/lang/StringUTF16$CharsSpliterator")] 4

def k10m0 : Method := { name := "<init>", desc := "()V", sig := { parameters := [], returnType := none }, accessFlags := 0, code := none }
def k10c1 : Code := { maxStack := 1, maxLocals := 1, code := jdk_52_method_2_code, exceptionTable := #[], attributes := #[] }
def k10m1 : Method := { name := "newBytesFor", desc := "(I)[B", sig := { parameters := [.int], returnType := some (.array .byte) }, accessFlags := 9, code := some k10c1 }
def k10c2 : Code := { maxStack := 4, maxLocals := 1, code := jdk_52_method_3_code, exceptionTable := #[], attributes := #[] }
def k10m2 : Method := { name := "newBytesLength", desc := "(I)I", sig := { parameters := [.int], returnType := some .int }, accessFlags := 9, code := some k10c2 }
def k10c3 : Code := { maxStack := 4, maxLocals := 3, code := jdk_52_method_4_code, exceptionTable := #[], attributes := #[] }
def k10m3 : Method := { name := "putChar", desc := "([BII)V", sig := { parameters := [(.array .byte), .int, .int], returnType := none }, accessFlags := 8, code := some k10c3 }
def k10c4 : Code := { maxStack := 3, maxLocals := 2, code := jdk_52_method_5_code, exceptionTable := #[], attributes := #[] }
def k10m4 : Method := { name := "getChar", desc := "([BI)C", sig := { parameters := [(.array .byte), .int], returnType := some .char }, accessFlags := 8, code := some k10c4 }
def k10c5 : Code := { maxStack := 2, maxLocals := 1, code := jdk_52_method_6_code, exceptionTable := #[], attributes := #[] }
def k10m5 : Method := { name := "length", desc := "([B)I", sig := { parameters := [(.array .byte)], returnType := some .int }, accessFlags := 9, code := some k10c5 }
def k10c6 : Code := { maxStack := 4, maxLocals := 5, code := jdk_52_method_14_code, exceptionTable := #[], attributes := #[] }
def k10m6 : Method := { name := "toBytes", desc := "([CII)[B", sig := { parameters := [(.array .char), .int, .int], returnType := some (.array .byte) }, accessFlags := 9, code := some k10c6 }
def k10c7 : Code := { maxStack := 2, maxLocals := 2, code := jdk_52_method_15_code, exceptionTable := #[], attributes := #[] }
def k10m7 : Method := { name := "coderFromArrayLen", desc := "([BI)B", sig := { parameters := [(.array .byte), .int], returnType := some .byte }, accessFlags := 8, code := some k10c7 }
def k10c8 : Code := { maxStack := 5, maxLocals := 6, code := jdk_52_method_16_code, exceptionTable := #[], attributes := #[] }
def k10m8 : Method := { name := "compress", desc := "([CII)[B", sig := { parameters := [(.array .char), .int, .int], returnType := some (.array .byte) }, accessFlags := 9, code := some k10c8 }
def k10c9 : Code := { maxStack := 3, maxLocals := 7, code := jdk_52_method_21_code, exceptionTable := #[], attributes := #[] }
def k10m9 : Method := { name := "compress", desc := "([CI[BII)I", sig := { parameters := [(.array .char), .int, (.array .byte), .int, .int], returnType := some .int }, accessFlags := 9, code := some k10c9 }
def k10c10 : Code := { maxStack := 2, maxLocals := 2, code := jdk_52_method_83_code, exceptionTable := #[], attributes := #[] }
def k10m10 : Method := { name := "charAt", desc := "([BI)C", sig := { parameters := [(.array .byte), .int], returnType := some .char }, accessFlags := 9, code := some k10c10 }
def k10c11 : Code := { maxStack := 2, maxLocals := 2, code := jdk_52_method_91_code, exceptionTable := #[], attributes := #[] }
def k10m11 : Method := { name := "checkIndex", desc := "(I[B)V", sig := { parameters := [.int, (.array .byte)], returnType := none }, accessFlags := 9, code := some k10c11 }
/-- java/lang/StringUTF16 -/
def k10 : Class := { plain "java/lang/StringUTF16" (some 0) with
  accessFlags := 48
  interfaces := #[]
  cf := some (fileOf pool10 12 #[.nestMembers #[627, 629, 369]] #[{ accessFlags := 0, nameIndex := 9, descriptorIndex := 10, attributes := #[] }, { accessFlags := 9, nameIndex := 109, descriptorIndex := 110, attributes := #[] }, { accessFlags := 9, nameIndex := 15, descriptorIndex := 16, attributes := #[] }, { accessFlags := 8, nameIndex := 113, descriptorIndex := 114, attributes := #[] }, { accessFlags := 8, nameIndex := 73, descriptorIndex := 74, attributes := #[] }, { accessFlags := 9, nameIndex := 50, descriptorIndex := 51, attributes := #[] }, { accessFlags := 9, nameIndex := 121, descriptorIndex := 122, attributes := #[] }, { accessFlags := 8, nameIndex := 261, descriptorIndex := 262, attributes := #[] }, { accessFlags := 9, nameIndex := 117, descriptorIndex := 122, attributes := #[] }, { accessFlags := 9, nameIndex := 117, descriptorIndex := 118, attributes := #[] }, { accessFlags := 9, nameIndex := 392, descriptorIndex := 74, attributes := #[] }, { accessFlags := 9, nameIndex := 69, descriptorIndex := 70, attributes := #[] }] 48 6 #[] #[{ accessFlags := 26, nameIndex := 61, descriptorIndex := 62, attributes := #[] }, { accessFlags := 26, nameIndex := 65, descriptorIndex := 62, attributes := #[] }, { accessFlags := 24, nameIndex := 430, descriptorIndex := 62, attributes := #[] }, { accessFlags := 4120, nameIndex := 46, descriptorIndex := 47, attributes := #[] }])
  fields := #[{ name := "HI_BYTE_SHIFT", type := .int, accessFlags := 26, slot := 0, constantValue := 0 }, { name := "LO_BYTE_SHIFT", type := .int, accessFlags := 26, slot := 1, constantValue := 0 }, { name := "MAX_LENGTH", type := .int, accessFlags := 24, slot := 2, constantValue := 0 }, { name := "$assertionsDisabled", type := .boolean, accessFlags := 4120, slot := 3, constantValue := 0 }]
  methods := #[k10m0, k10m1, k10m2, k10m3, k10m4, k10m5, k10m6, k10m7, k10m8, k10m9, k10m10, k10m11]
  instanceTypes := #[]
  staticTypes := #[.int, .int, .int, .boolean]
  resolved := Array.replicate 635 none
  statics := some 1 }

def pool11 : Array CpInfo := pool [(1, .class_ 2), (0, u "java/lang/String"), (1, .class_ 6), (1, u "java/lang/Object"), (0, u "<init>"), (0, u "()V"), (0, .methodref 1 10), (0, .nameAndType 11 12), (0, u "checkIndex"), (0, u "(II)V"), (1, .class_ 16), (1, u "java/lang/StringLatin1"), (36, u "([BI)C"), (67, u "$assertionsDisabled"), (0, u "Z"), (98, .class_ 223), (1, u "java/lang/StringLatin1$LinesSpliterator"), (28, u "charAt"), (137, .class_ 391), (0, u "java/lang/StringLatin1$CharsSpliterator")] 3

def k11m0 : Method := { name := "<init>", desc := "()V", sig := { parameters := [], returnType := none }, accessFlags := 0, code := none }
def k11c1 : Code := { maxStack := 2, maxLocals := 2, code := jdk_43_method_2_code, exceptionTable := #[], attributes := #[] }
def k11m1 : Method := { name := "charAt", desc := "([BI)C", sig := { parameters := [(.array .byte), .int], returnType := some .char }, accessFlags := 9, code := some k11c1 }
/-- java/lang/StringLatin1 -/
def k11 : Class := { plain "java/lang/StringLatin1" (some 0) with
  accessFlags := 48
  interfaces := #[]
  cf := some (fileOf pool11 14 #[.nestMembers #[390, 221]] #[{ accessFlags := 0, nameIndex := 7, descriptorIndex := 8, attributes := #[] }, { accessFlags := 9, nameIndex := 252, descriptorIndex := 53, attributes := #[] }] 48 4 #[] #[{ accessFlags := 4120, nameIndex := 121, descriptorIndex := 122, attributes := #[] }])
  fields := #[{ name := "$assertionsDisabled", type := .boolean, accessFlags := 4120, slot := 0, constantValue := 0 }]
  methods := #[k11m0, k11m1]
  instanceTypes := #[]
  staticTypes := #[.boolean]
  resolved := Array.replicate 395 none
  statics := none }

def pool12 : Array CpInfo := pool [(2, .class_ 4), (1, u "java/lang/Object"), (0, u "<init>"), (0, u "()V"), (17, .class_ 26), (1, u "jdk/internal/util/Preconditions"), (6, u "checkIndex"), (21, .class_ 56), (0, u "jdk/internal/util/Preconditions$4"), (57, .class_ 115), (0, u "jdk/internal/util/Preconditions$1"), (7, u "SIOOBE_FORMATTER"), (0, u "Ljava/util/function/BiFunction;"), (0, .class_ 126), (0, u "jdk/internal/util/Preconditions$2"), (3, u "AIOOBE_FORMATTER"), (0, .class_ 132), (0, u "jdk/internal/util/Preconditions$3"), (3, u "IOOBE_FORMATTER"), (41, u "(IILjava/util/function/BiFunction;)I")] 15

def k12m0 : Method := { name := "<init>", desc := "()V", sig := { parameters := [], returnType := none }, accessFlags := 1, code := none }
def k12c1 : Code := { maxStack := 3, maxLocals := 3, code := jdk_41_method_11_code, exceptionTable := #[], attributes := #[] }
def k12m1 : Method := { name := "checkIndex", desc := "(IILjava/util/function/BiFunction;)I", sig := { parameters := [.int, .int, (.object "java/util/function/BiFunction")], returnType := some .int }, accessFlags := 9, code := some k12c1 }
/-- jdk/internal/util/Preconditions -/
def k12 : Class := { plain "jdk/internal/util/Preconditions" (some 0) with
  accessFlags := 33
  interfaces := #[]
  cf := some (fileOf pool12 24 #[.nestMembers #[55, 131, 125, 114]] #[{ accessFlags := 1, nameIndex := 5, descriptorIndex := 6, attributes := #[] }, { accessFlags := 9, nameIndex := 33, descriptorIndex := 178, attributes := #[] }] 33 2 #[] #[{ accessFlags := 25, nameIndex := 123, descriptorIndex := 124, attributes := #[] }, { accessFlags := 25, nameIndex := 130, descriptorIndex := 124, attributes := #[] }, { accessFlags := 25, nameIndex := 136, descriptorIndex := 124, attributes := #[] }])
  fields := #[{ name := "SIOOBE_FORMATTER", type := (.object "java/util/function/BiFunction"), accessFlags := 25, slot := 0, constantValue := 0 }, { name := "AIOOBE_FORMATTER", type := (.object "java/util/function/BiFunction"), accessFlags := 25, slot := 1, constantValue := 0 }, { name := "IOOBE_FORMATTER", type := (.object "java/util/function/BiFunction"), accessFlags := 25, slot := 2, constantValue := 0 }]
  methods := #[k12m0, k12m1]
  instanceTypes := #[]
  staticTypes := #[(.object "java/util/function/BiFunction"), (.object "java/util/function/BiFunction"), (.object "java/util/function/BiFunction")]
  resolved := Array.replicate 194 none
  statics := some 2 }

def pool13 : Array CpInfo := pool [(9, u "<init>"), (6, .class_ 18), (1, u "java/lang/Object"), (0, u "()V"), (1, .class_ 23), (1, u "jdk/internal/util/ArraysSupport"), (0, u "LOG2_ARRAY_LONG_INDEX_SCALE"), (0, u "I"), (2, u "U"), (0, u "Ljdk/internal/misc/Unsafe;"), (8, u "BIG_ENDIAN"), (0, u "Z"), (8, u "LOG2_BYTE_BIT_SIZE"), (4, u "LOG2_ARRAY_INT_INDEX_SCALE"), (54, u "JLA"), (0, u "Ljdk/internal/access/JavaLangAccess;"), (11, u "LOG2_ARRAY_BOOLEAN_INDEX_SCALE"), (9, u "LOG2_ARRAY_BYTE_INDEX_SCALE"), (5, u "LOG2_ARRAY_CHAR_INDEX_SCALE"), (5, u "LOG2_ARRAY_SHORT_INDEX_SCALE"), (18, u "LOG2_ARRAY_FLOAT_INDEX_SCALE"), (24, u "LOG2_ARRAY_DOUBLE_INDEX_SCALE"), (89, u "T_BOOLEAN"), (2, u "T_CHAR"), (1, u "T_FLOAT"), (1, u "T_DOUBLE"), (1, u "T_BYTE"), (1, u "T_SHORT"), (1, u "T_INT"), (1, u "T_LONG"), (1, u "SOFT_MAX_ARRAY_LENGTH")] 83

def k13m0 : Method := { name := "<init>", desc := "()V", sig := { parameters := [], returnType := none }, accessFlags := 2, code := none }
/-- jdk/internal/util/ArraysSupport -/
def k13 : Class := { plain "jdk/internal/util/ArraysSupport" (some 0) with
  accessFlags := 33
  interfaces := #[]
  cf := some (fileOf pool13 21 #[] #[{ accessFlags := 2, nameIndex := 9, descriptorIndex := 19, attributes := #[] }] 33 16 #[] #[{ accessFlags := 24, nameIndex := 28, descriptorIndex := 29, attributes := #[] }, { accessFlags := 26, nameIndex := 38, descriptorIndex := 39, attributes := #[] }, { accessFlags := 25, nameIndex := 121, descriptorIndex := 25, attributes := #[] }, { accessFlags := 25, nameIndex := 131, descriptorIndex := 25, attributes := #[] }, { accessFlags := 25, nameIndex := 137, descriptorIndex := 25, attributes := #[] }, { accessFlags := 25, nameIndex := 143, descriptorIndex := 25, attributes := #[] }, { accessFlags := 25, nameIndex := 53, descriptorIndex := 25, attributes := #[] }, { accessFlags := 25, nameIndex := 24, descriptorIndex := 25, attributes := #[] }, { accessFlags := 25, nameIndex := 162, descriptorIndex := 25, attributes := #[] }, { accessFlags := 25, nameIndex := 187, descriptorIndex := 25, attributes := #[] }, { accessFlags := 26, nameIndex := 48, descriptorIndex := 25, attributes := #[] }, { accessFlags := 25, nameIndex := 277, descriptorIndex := 25, attributes := #[] }, { accessFlags := 25, nameIndex := 280, descriptorIndex := 25, attributes := #[] }, { accessFlags := 25, nameIndex := 282, descriptorIndex := 25, attributes := #[] }, { accessFlags := 25, nameIndex := 284, descriptorIndex := 25, attributes := #[] }, { accessFlags := 25, nameIndex := 286, descriptorIndex := 25, attributes := #[] }, { accessFlags := 25, nameIndex := 288, descriptorIndex := 25, attributes := #[] }, { accessFlags := 25, nameIndex := 290, descriptorIndex := 25, attributes := #[] }, { accessFlags := 25, nameIndex := 292, descriptorIndex := 25, attributes := #[] }, { accessFlags := 26, nameIndex := 108, descriptorIndex := 109, attributes := #[] }, { accessFlags := 25, nameIndex := 294, descriptorIndex := 25, attributes := #[] }])
  fields := #[{ name := "U", type := (.object "jdk/internal/misc/Unsafe"), accessFlags := 24, slot := 0, constantValue := 0 }, { name := "BIG_ENDIAN", type := .boolean, accessFlags := 26, slot := 1, constantValue := 0 }, { name := "LOG2_ARRAY_BOOLEAN_INDEX_SCALE", type := .int, accessFlags := 25, slot := 2, constantValue := 0 }, { name := "LOG2_ARRAY_BYTE_INDEX_SCALE", type := .int, accessFlags := 25, slot := 3, constantValue := 0 }, { name := "LOG2_ARRAY_CHAR_INDEX_SCALE", type := .int, accessFlags := 25, slot := 4, constantValue := 0 }, { name := "LOG2_ARRAY_SHORT_INDEX_SCALE", type := .int, accessFlags := 25, slot := 5, constantValue := 0 }, { name := "LOG2_ARRAY_INT_INDEX_SCALE", type := .int, accessFlags := 25, slot := 6, constantValue := 0 }, { name := "LOG2_ARRAY_LONG_INDEX_SCALE", type := .int, accessFlags := 25, slot := 7, constantValue := 0 }, { name := "LOG2_ARRAY_FLOAT_INDEX_SCALE", type := .int, accessFlags := 25, slot := 8, constantValue := 0 }, { name := "LOG2_ARRAY_DOUBLE_INDEX_SCALE", type := .int, accessFlags := 25, slot := 9, constantValue := 0 }, { name := "LOG2_BYTE_BIT_SIZE", type := .int, accessFlags := 26, slot := 10, constantValue := 0 }, { name := "T_BOOLEAN", type := .int, accessFlags := 25, slot := 11, constantValue := 0 }, { name := "T_CHAR", type := .int, accessFlags := 25, slot := 12, constantValue := 0 }, { name := "T_FLOAT", type := .int, accessFlags := 25, slot := 13, constantValue := 0 }, { name := "T_DOUBLE", type := .int, accessFlags := 25, slot := 14, constantValue := 0 }, { name := "T_BYTE", type := .int, accessFlags := 25, slot := 15, constantValue := 0 }, { name := "T_SHORT", type := .int, accessFlags := 25, slot := 16, constantValue := 0 }, { name := "T_INT", type := .int, accessFlags := 25, slot := 17, constantValue := 0 }, { name := "T_LONG", type := .int, accessFlags := 25, slot := 18, constantValue := 0 }, { name := "JLA", type := (.object "jdk/internal/access/JavaLangAccess"), accessFlags := 26, slot := 19, constantValue := 0 }, { name := "SOFT_MAX_ARRAY_LENGTH", type := .int, accessFlags := 25, slot := 20, constantValue := 0 }]
  methods := #[k13m0]
  instanceTypes := #[]
  staticTypes := #[(.object "jdk/internal/misc/Unsafe"), .boolean, .int, .int, .int, .int, .int, .int, .int, .int, .int, .int, .int, .int, .int, .int, .int, .int, .int, (.object "jdk/internal/access/JavaLangAccess"), .int]
  resolved := Array.replicate 378 none
  statics := none }

def pool14 : Array CpInfo := pool [(1, u "java/lang/Cloneable"), (0, .class_ 1), (0, u "java/lang/Object"), (0, .class_ 3)] 3

/-- java/lang/Cloneable -/
def k14 : Class := { plain "java/lang/Cloneable" (some 0) with
  accessFlags := 1537
  interfaces := #[]
  cf := some (fileOf pool14 2 #[] #[] 1537 4 #[] #[])
  fields := #[]
  methods := #[]
  instanceTypes := #[]
  staticTypes := #[]
  resolved := Array.replicate 8 none
  statics := none }

/-- the primitive byte -/
def k15 : Class := { plain "byte" none with kind := .primitive 'B', accessFlags := 0x411 }
/-- [B -/
def k16 : Class := { plain "[B" (some 0) with kind := .array 15 .byte, interfaces := #[14, 4], accessFlags := 1041 }

/-- the primitive char -/
def k17 : Class := { plain "char" none with kind := .primitive 'C', accessFlags := 0x411 }
/-- [C -/
def k18 : Class := { plain "[C" (some 0) with kind := .array 17 .char, interfaces := #[14, 4], accessFlags := 1041 }

/-- the primitive int -/
def k19 : Class := { plain "int" none with kind := .primitive 'I', accessFlags := 0x411 }
/-- [I -/
def k20 : Class := { plain "[I" (some 0) with kind := .array 19 .int, interfaces := #[14, 4], accessFlags := 1041 }

def heap : Heap := #[{ cls := 9, slots := #[.long 0, .int 1, .null, .int 0, .null, .int 0, .int 0], vm := .statics 9 },
  { cls := 10, slots := #[.int 0, .int 8, .int 0, .int 1], vm := .statics 10 },
  { cls := 12, slots := #[.null, .null, .null], vm := .statics 12 }]
def classes : Array Class := #[k0, k1, k2, k3, k4, k5, k6, k7, k8, k9, k10, k11, k12, k13, k14, k15, k16, k17, k18, k19, k20]
def interned : List (Array UInt16 × Addr) := []
def slotsUsed : Nat := 14
def theMethod : MethodId := ⟨1, 1⟩
def args0 : Array Value := #[.int 5, .int 3, .int 4, .int 6, .int 7]
def aboutOver (below : List Frame) : State where
  vm := { classes := classes, interned := interned.toArray }
  heap := heap
  slotsUsed := slotsUsed
  threads := #[{ frames := .invoking theMethod args0 :: below }]
def below0 : List Frame := [.native { method := ⟨0, 0⟩, args := #[] }]
def about1 : State := aboutOver below0
def p0 : Program := .bare "" "" ""
def e0 : Env := launch0.env 0 0 0
theorem w_frames : about1.frames = Frame.invoking theMethod args0 :: below0 := rfl
set_option maxRecDepth 65536 in
theorem w_args : argsFit about1.vm theMethod args0 = true := by decide +kernel
set_option maxRecDepth 65536 in
theorem w_heap : heapFits about1 = true := by decide +kernel
set_option maxRecDepth 65536 in
theorem w_runnable : about1.curStatus? = some .runnable := by decide +kernel
set_option maxRecDepth 65536 in
theorem w_alone : about1.alone = true := by decide +kernel
set_option maxRecDepth 65536 in
theorem w_named : about1.methodNamed? x = some theMethod := by decide +kernel
set_option maxRecDepth 65536 in
theorem w_hears : about1.hears theMethod below0 = true := by decide +kernel
set_option maxRecDepth 65536 in
theorem w_ripe : about1.ripe theMethod args0 below0 = true := by decide +kernel
theorem w_running : about1.status = .running := rfl
set_option maxRecDepth 65536 in
theorem w_room : about1.hasRoom e0.platform room_1 = true :=
  launch0.hasRoom_least _ room_1 (by decide +kernel) (by decide +kernel) (by decide +kernel) (by decide +kernel) (by decide +kernel) (by decide +kernel)
theorem allAtoms_all (ts : List Jvm.Cond) (a : Array Jvm.Value) (st : Jvm.State) : (allAtoms ts).before a st = ts.all (fun c => c.before a st) := by
  induction ts with
  | nil => rfl
  | cons c t ih =>
    show (Jvm.Cond.and c (allAtoms t)).before a st = _
    rw [Jvm.Cond.before_and, ih, List.all_cons]
def words1 : List Jvm.Cond := Jvm.Cond.code x code maxLocals ret :: tables_1
/-- a 'code' word, met by the world's own term for the bytes: nothing is compared byte by byte -/
theorem code_word {y : MethodName} {bytes : ByteArray} {mx : Nat} {rt : Option FieldType} {a : Array Value} {s : State} {m : MethodId} {meth : Method} {c : Code} (h1 : s.methodNamed? y = some m) (h2 : s.vm.method? m = some meth) (h3 : meth.code = some c) (h4 : c.code = bytes)
    (h5 : (c.maxLocals == mx && c.exceptionTable.isEmpty && decide (c.maxStack ≤ mostOperands) && decide (meth.sig.returnType = rt) && !meth.locks && decide (parseMethodDescriptor y.desc = some meth.sig)) = true) : (Jvm.Cond.code y bytes mx rt).before a s = true := by
  simp only [Bool.and_eq_true, beq_iff_eq, Bool.not_eq_true', decide_eq_true_eq] at h5
  obtain ⟨⟨⟨⟨⟨g1, g2⟩, g3⟩, g4⟩, g5⟩, g6⟩ := h5
  simp [Cond.before, Cond.holds, Cond.value, h1, h2, h3, h4, g1, g2, g3, g4, g5, g6]
def isCode : Jvm.Cond → Bool
  | .code _ _ _ _ => true
  | _ => false
theorem all_split {L : List Jvm.Cond} {P : Jvm.Cond → Bool} (h1 : L.all (fun c => isCode c || P c) = true) (h2 : ∀ c ∈ L.filter isCode, P c = true) : L.all P = true := by
  refine List.all_eq_true.mpr fun c hc => ?_
  have h := List.all_eq_true.mp h1 c hc
  rcases Bool.eq_false_or_eq_true (isCode c) with hi | hi
  · exact h2 c (List.mem_filter.mpr ⟨hc, hi⟩)
  · simpa [hi] using h
set_option maxRecDepth 65536 in
theorem w_c0 : (Jvm.Cond.code x code maxLocals ret).before args0 about1 = true := code_word (m := ⟨1, 1⟩) (meth := k1m1) (c := k1c1) (by decide +kernel) rfl rfl rfl (by decide +kernel)
set_option maxRecDepth 65536 in
theorem w_c1 : (Jvm.Cond.code ({ cls := "com/example/refertario/refertario/hl7/Delimiters", name := "<init>", desc := "(CCCCC)V" } : Jvm.MethodName) prog_49_method_1_code (6 : Nat) (Option.none : Option Jvm.ClassFile.FieldType)).before args0 about1 = true := code_word (m := ⟨3, 0⟩) (meth := k3m0) (c := k3c0) (by decide +kernel) rfl rfl rfl (by decide +kernel)
set_option maxRecDepth 65536 in
theorem w_c2 : (Jvm.Cond.code ({ cls := "java/lang/Record", name := "<init>", desc := "()V" } : Jvm.MethodName) jdk_30_method_1_code (1 : Nat) (Option.none : Option Jvm.ClassFile.FieldType)).before args0 about1 = true := code_word (m := ⟨2, 0⟩) (meth := k2m0) (c := k2c0) (by decide +kernel) rfl rfl rfl (by decide +kernel)
set_option maxRecDepth 65536 in
theorem w_c3 : (Jvm.Cond.code ({ cls := "java/lang/Object", name := "<init>", desc := "()V" } : Jvm.MethodName) object_method_1_code (1 : Nat) (Option.none : Option Jvm.ClassFile.FieldType)).before args0 about1 = true := code_word (m := ⟨0, 0⟩) (meth := k0m0) (c := k0c0) (by decide +kernel) rfl rfl rfl (by decide +kernel)
set_option maxRecDepth 65536 in
theorem w_c4 : (Jvm.Cond.code ({ cls := "com/example/refertario/refertario/hl7/Delimiters", name := "encodingCharacters", desc := "()Ljava/lang/String;" } : Jvm.MethodName) prog_49_method_2_code (1 : Nat) (Option.some (Jvm.ClassFile.FieldType.object "java/lang/String"))).before args0 about1 = true := code_word (m := ⟨3, 1⟩) (meth := k3m1) (c := k3c1) (by decide +kernel) rfl rfl rfl (by decide +kernel)
set_option maxRecDepth 65536 in
theorem w_c5 : (Jvm.Cond.code ({ cls := "java/lang/String", name := "<init>", desc := "([C)V" } : Jvm.MethodName) jdk_42_method_3_code (2 : Nat) (Option.none : Option Jvm.ClassFile.FieldType)).before args0 about1 = true := code_word (m := ⟨9, 1⟩) (meth := k9m1) (c := k9c1) (by decide +kernel) rfl rfl rfl (by decide +kernel)
set_option maxRecDepth 65536 in
theorem w_c6 : (Jvm.Cond.code ({ cls := "java/lang/String", name := "<init>", desc := "([CIILjava/lang/Void;)V" } : Jvm.MethodName) jdk_42_method_149_code (6 : Nat) (Option.none : Option Jvm.ClassFile.FieldType)).before args0 about1 = true := code_word (m := ⟨9, 4⟩) (meth := k9m4) (c := k9c4) (by decide +kernel) rfl rfl rfl (by decide +kernel)
set_option maxRecDepth 65536 in
theorem w_c7 : (Jvm.Cond.code ({ cls := "java/lang/StringUTF16", name := "compress", desc := "([CII)[B" } : Jvm.MethodName) jdk_52_method_16_code (6 : Nat) (Option.some (Jvm.ClassFile.FieldType.array Jvm.ClassFile.FieldType.byte))).before args0 about1 = true := code_word (m := ⟨10, 8⟩) (meth := k10m8) (c := k10c8) (by decide +kernel) rfl rfl rfl (by decide +kernel)
set_option maxRecDepth 65536 in
theorem w_c8 : (Jvm.Cond.code ({ cls := "java/lang/StringUTF16", name := "compress", desc := "([CI[BII)I" } : Jvm.MethodName) jdk_52_method_21_code (7 : Nat) (Option.some Jvm.ClassFile.FieldType.int)).before args0 about1 = true := code_word (m := ⟨10, 9⟩) (meth := k10m9) (c := k10c9) (by decide +kernel) rfl rfl rfl (by decide +kernel)
set_option maxRecDepth 65536 in
theorem w_c9 : (Jvm.Cond.code ({ cls := "java/lang/StringUTF16", name := "coderFromArrayLen", desc := "([BI)B" } : Jvm.MethodName) jdk_52_method_15_code (2 : Nat) (Option.some Jvm.ClassFile.FieldType.byte)).before args0 about1 = true := code_word (m := ⟨10, 7⟩) (meth := k10m7) (c := k10c7) (by decide +kernel) rfl rfl rfl (by decide +kernel)
set_option maxRecDepth 65536 in
theorem w_c10 : (Jvm.Cond.code ({ cls := "java/lang/String", name := "length", desc := "()I" } : Jvm.MethodName) jdk_42_method_54_code (1 : Nat) (Option.some Jvm.ClassFile.FieldType.int)).before args0 about1 = true := code_word (m := ⟨9, 2⟩) (meth := k9m2) (c := k9c2) (by decide +kernel) rfl rfl rfl (by decide +kernel)
set_option maxRecDepth 65536 in
theorem w_c11 : (Jvm.Cond.code ({ cls := "java/lang/String", name := "coder", desc := "()B" } : Jvm.MethodName) jdk_42_method_152_code (1 : Nat) (Option.some Jvm.ClassFile.FieldType.byte)).before args0 about1 = true := code_word (m := ⟨9, 5⟩) (meth := k9m5) (c := k9c5) (by decide +kernel) rfl rfl rfl (by decide +kernel)
set_option maxRecDepth 65536 in
theorem w_c12 : (Jvm.Cond.code ({ cls := "java/lang/String", name := "charAt", desc := "(I)C" } : Jvm.MethodName) jdk_42_method_56_code (2 : Nat) (Option.some Jvm.ClassFile.FieldType.char)).before args0 about1 = true := code_word (m := ⟨9, 3⟩) (meth := k9m3) (c := k9c3) (by decide +kernel) rfl rfl rfl (by decide +kernel)
set_option maxRecDepth 65536 in
theorem w_c13 : (Jvm.Cond.code ({ cls := "java/lang/String", name := "isLatin1", desc := "()Z" } : Jvm.MethodName) jdk_42_method_154_code (1 : Nat) (Option.some Jvm.ClassFile.FieldType.boolean)).before args0 about1 = true := code_word (m := ⟨9, 6⟩) (meth := k9m6) (c := k9c6) (by decide +kernel) rfl rfl rfl (by decide +kernel)
set_option maxRecDepth 65536 in
theorem w_c14 : (Jvm.Cond.code ({ cls := "java/lang/StringLatin1", name := "charAt", desc := "([BI)C" } : Jvm.MethodName) jdk_43_method_2_code (2 : Nat) (Option.some Jvm.ClassFile.FieldType.char)).before args0 about1 = true := code_word (m := ⟨11, 1⟩) (meth := k11m1) (c := k11c1) (by decide +kernel) rfl rfl rfl (by decide +kernel)
set_option maxRecDepth 65536 in
theorem w_c15 : (Jvm.Cond.code ({ cls := "java/lang/String", name := "checkIndex", desc := "(II)V" } : Jvm.MethodName) jdk_42_method_155_code (2 : Nat) (Option.none : Option Jvm.ClassFile.FieldType)).before args0 about1 = true := code_word (m := ⟨9, 7⟩) (meth := k9m7) (c := k9c7) (by decide +kernel) rfl rfl rfl (by decide +kernel)
set_option maxRecDepth 65536 in
theorem w_c16 : (Jvm.Cond.code ({ cls := "jdk/internal/util/Preconditions", name := "checkIndex", desc := "(IILjava/util/function/BiFunction;)I" } : Jvm.MethodName) jdk_41_method_11_code (3 : Nat) (Option.some Jvm.ClassFile.FieldType.int)).before args0 about1 = true := code_word (m := ⟨12, 1⟩) (meth := k12m1) (c := k12c1) (by decide +kernel) rfl rfl rfl (by decide +kernel)
set_option maxRecDepth 65536 in
theorem w_c17 : (Jvm.Cond.code ({ cls := "java/lang/StringUTF16", name := "toBytes", desc := "([CII)[B" } : Jvm.MethodName) jdk_52_method_14_code (5 : Nat) (Option.some (Jvm.ClassFile.FieldType.array Jvm.ClassFile.FieldType.byte))).before args0 about1 = true := code_word (m := ⟨10, 6⟩) (meth := k10m6) (c := k10c6) (by decide +kernel) rfl rfl rfl (by decide +kernel)
set_option maxRecDepth 65536 in
theorem w_c18 : (Jvm.Cond.code ({ cls := "java/lang/StringUTF16", name := "newBytesFor", desc := "(I)[B" } : Jvm.MethodName) jdk_52_method_2_code (1 : Nat) (Option.some (Jvm.ClassFile.FieldType.array Jvm.ClassFile.FieldType.byte))).before args0 about1 = true := code_word (m := ⟨10, 1⟩) (meth := k10m1) (c := k10c1) (by decide +kernel) rfl rfl rfl (by decide +kernel)
set_option maxRecDepth 65536 in
theorem w_c19 : (Jvm.Cond.code ({ cls := "java/lang/StringUTF16", name := "newBytesLength", desc := "(I)I" } : Jvm.MethodName) jdk_52_method_3_code (1 : Nat) (Option.some Jvm.ClassFile.FieldType.int)).before args0 about1 = true := code_word (m := ⟨10, 2⟩) (meth := k10m2) (c := k10c2) (by decide +kernel) rfl rfl rfl (by decide +kernel)
set_option maxRecDepth 65536 in
theorem w_c20 : (Jvm.Cond.code ({ cls := "java/lang/StringUTF16", name := "putChar", desc := "([BII)V" } : Jvm.MethodName) jdk_52_method_4_code (3 : Nat) (Option.none : Option Jvm.ClassFile.FieldType)).before args0 about1 = true := code_word (m := ⟨10, 3⟩) (meth := k10m3) (c := k10c3) (by decide +kernel) rfl rfl rfl (by decide +kernel)
set_option maxRecDepth 65536 in
theorem w_c21 : (Jvm.Cond.code ({ cls := "java/lang/StringUTF16", name := "getChar", desc := "([BI)C" } : Jvm.MethodName) jdk_52_method_5_code (2 : Nat) (Option.some Jvm.ClassFile.FieldType.char)).before args0 about1 = true := code_word (m := ⟨10, 4⟩) (meth := k10m4) (c := k10c4) (by decide +kernel) rfl rfl rfl (by decide +kernel)
set_option maxRecDepth 65536 in
theorem w_c22 : (Jvm.Cond.code ({ cls := "java/lang/StringUTF16", name := "charAt", desc := "([BI)C" } : Jvm.MethodName) jdk_52_method_83_code (2 : Nat) (Option.some Jvm.ClassFile.FieldType.char)).before args0 about1 = true := code_word (m := ⟨10, 10⟩) (meth := k10m10) (c := k10c10) (by decide +kernel) rfl rfl rfl (by decide +kernel)
set_option maxRecDepth 65536 in
theorem w_c23 : (Jvm.Cond.code ({ cls := "java/lang/StringUTF16", name := "checkIndex", desc := "(I[B)V" } : Jvm.MethodName) jdk_52_method_91_code (2 : Nat) (Option.none : Option Jvm.ClassFile.FieldType)).before args0 about1 = true := code_word (m := ⟨10, 11⟩) (meth := k10m11) (c := k10c11) (by decide +kernel) rfl rfl rfl (by decide +kernel)
set_option maxRecDepth 65536 in
theorem w_c24 : (Jvm.Cond.code ({ cls := "java/lang/StringUTF16", name := "length", desc := "([B)I" } : Jvm.MethodName) jdk_52_method_6_code (1 : Nat) (Option.some Jvm.ClassFile.FieldType.int)).before args0 about1 = true := code_word (m := ⟨10, 5⟩) (meth := k10m5) (c := k10c5) (by decide +kernel) rfl rfl rfl (by decide +kernel)
def codes1 : List Jvm.Cond := [Jvm.Cond.code x code maxLocals ret, Jvm.Cond.code ({ cls := "com/example/refertario/refertario/hl7/Delimiters", name := "<init>", desc := "(CCCCC)V" } : Jvm.MethodName) prog_49_method_1_code (6 : Nat) (Option.none : Option Jvm.ClassFile.FieldType), Jvm.Cond.code ({ cls := "java/lang/Record", name := "<init>", desc := "()V" } : Jvm.MethodName) jdk_30_method_1_code (1 : Nat) (Option.none : Option Jvm.ClassFile.FieldType), Jvm.Cond.code ({ cls := "java/lang/Object", name := "<init>", desc := "()V" } : Jvm.MethodName) object_method_1_code (1 : Nat) (Option.none : Option Jvm.ClassFile.FieldType), Jvm.Cond.code ({ cls := "com/example/refertario/refertario/hl7/Delimiters", name := "encodingCharacters", desc := "()Ljava/lang/String;" } : Jvm.MethodName) prog_49_method_2_code (1 : Nat) (Option.some (Jvm.ClassFile.FieldType.object "java/lang/String")), Jvm.Cond.code ({ cls := "java/lang/String", name := "<init>", desc := "([C)V" } : Jvm.MethodName) jdk_42_method_3_code (2 : Nat) (Option.none : Option Jvm.ClassFile.FieldType), Jvm.Cond.code ({ cls := "java/lang/String", name := "<init>", desc := "([CIILjava/lang/Void;)V" } : Jvm.MethodName) jdk_42_method_149_code (6 : Nat) (Option.none : Option Jvm.ClassFile.FieldType), Jvm.Cond.code ({ cls := "java/lang/StringUTF16", name := "compress", desc := "([CII)[B" } : Jvm.MethodName) jdk_52_method_16_code (6 : Nat) (Option.some (Jvm.ClassFile.FieldType.array Jvm.ClassFile.FieldType.byte)), Jvm.Cond.code ({ cls := "java/lang/StringUTF16", name := "compress", desc := "([CI[BII)I" } : Jvm.MethodName) jdk_52_method_21_code (7 : Nat) (Option.some Jvm.ClassFile.FieldType.int), Jvm.Cond.code ({ cls := "java/lang/StringUTF16", name := "coderFromArrayLen", desc := "([BI)B" } : Jvm.MethodName) jdk_52_method_15_code (2 : Nat) (Option.some Jvm.ClassFile.FieldType.byte), Jvm.Cond.code ({ cls := "java/lang/String", name := "length", desc := "()I" } : Jvm.MethodName) jdk_42_method_54_code (1 : Nat) (Option.some Jvm.ClassFile.FieldType.int), Jvm.Cond.code ({ cls := "java/lang/String", name := "coder", desc := "()B" } : Jvm.MethodName) jdk_42_method_152_code (1 : Nat) (Option.some Jvm.ClassFile.FieldType.byte), Jvm.Cond.code ({ cls := "java/lang/String", name := "charAt", desc := "(I)C" } : Jvm.MethodName) jdk_42_method_56_code (2 : Nat) (Option.some Jvm.ClassFile.FieldType.char), Jvm.Cond.code ({ cls := "java/lang/String", name := "isLatin1", desc := "()Z" } : Jvm.MethodName) jdk_42_method_154_code (1 : Nat) (Option.some Jvm.ClassFile.FieldType.boolean), Jvm.Cond.code ({ cls := "java/lang/StringLatin1", name := "charAt", desc := "([BI)C" } : Jvm.MethodName) jdk_43_method_2_code (2 : Nat) (Option.some Jvm.ClassFile.FieldType.char), Jvm.Cond.code ({ cls := "java/lang/String", name := "checkIndex", desc := "(II)V" } : Jvm.MethodName) jdk_42_method_155_code (2 : Nat) (Option.none : Option Jvm.ClassFile.FieldType), Jvm.Cond.code ({ cls := "jdk/internal/util/Preconditions", name := "checkIndex", desc := "(IILjava/util/function/BiFunction;)I" } : Jvm.MethodName) jdk_41_method_11_code (3 : Nat) (Option.some Jvm.ClassFile.FieldType.int), Jvm.Cond.code ({ cls := "java/lang/StringUTF16", name := "toBytes", desc := "([CII)[B" } : Jvm.MethodName) jdk_52_method_14_code (5 : Nat) (Option.some (Jvm.ClassFile.FieldType.array Jvm.ClassFile.FieldType.byte)), Jvm.Cond.code ({ cls := "java/lang/StringUTF16", name := "newBytesFor", desc := "(I)[B" } : Jvm.MethodName) jdk_52_method_2_code (1 : Nat) (Option.some (Jvm.ClassFile.FieldType.array Jvm.ClassFile.FieldType.byte)), Jvm.Cond.code ({ cls := "java/lang/StringUTF16", name := "newBytesLength", desc := "(I)I" } : Jvm.MethodName) jdk_52_method_3_code (1 : Nat) (Option.some Jvm.ClassFile.FieldType.int), Jvm.Cond.code ({ cls := "java/lang/StringUTF16", name := "putChar", desc := "([BII)V" } : Jvm.MethodName) jdk_52_method_4_code (3 : Nat) (Option.none : Option Jvm.ClassFile.FieldType), Jvm.Cond.code ({ cls := "java/lang/StringUTF16", name := "getChar", desc := "([BI)C" } : Jvm.MethodName) jdk_52_method_5_code (2 : Nat) (Option.some Jvm.ClassFile.FieldType.char), Jvm.Cond.code ({ cls := "java/lang/StringUTF16", name := "charAt", desc := "([BI)C" } : Jvm.MethodName) jdk_52_method_83_code (2 : Nat) (Option.some Jvm.ClassFile.FieldType.char), Jvm.Cond.code ({ cls := "java/lang/StringUTF16", name := "checkIndex", desc := "(I[B)V" } : Jvm.MethodName) jdk_52_method_91_code (2 : Nat) (Option.none : Option Jvm.ClassFile.FieldType), Jvm.Cond.code ({ cls := "java/lang/StringUTF16", name := "length", desc := "([B)I" } : Jvm.MethodName) jdk_52_method_6_code (1 : Nat) (Option.some Jvm.ClassFile.FieldType.int)]
set_option maxRecDepth 65536 in
theorem codes_eq : words1.filter isCode = codes1 := rfl
theorem w_codes : ∀ c ∈ words1.filter isCode, c.before args0 about1 = true := by
  rw [codes_eq]
  intro c hc
  simp only [codes1, List.mem_cons, List.not_mem_nil, or_false] at hc
  rcases hc with rfl | rfl | rfl | rfl | rfl | rfl | rfl | rfl | rfl | rfl | rfl | rfl | rfl | rfl | rfl | rfl | rfl | rfl | rfl | rfl | rfl | rfl | rfl | rfl | rfl
  · exact w_c0
  · exact w_c1
  · exact w_c2
  · exact w_c3
  · exact w_c4
  · exact w_c5
  · exact w_c6
  · exact w_c7
  · exact w_c8
  · exact w_c9
  · exact w_c10
  · exact w_c11
  · exact w_c12
  · exact w_c13
  · exact w_c14
  · exact w_c15
  · exact w_c16
  · exact w_c17
  · exact w_c18
  · exact w_c19
  · exact w_c20
  · exact w_c21
  · exact w_c22
  · exact w_c23
  · exact w_c24
set_option maxRecDepth 65536 in
theorem w_t1 : (words1.take 24).all (fun c => isCode c || c.before args0 about1) = true := by decide +kernel
set_option maxRecDepth 65536 in
theorem w_t2 : ((words1.drop 24).take 24).all (fun c => isCode c || c.before args0 about1) = true := by decide +kernel
set_option maxRecDepth 65536 in
theorem w_t3 : (((words1.drop 24).drop 24).take 24).all (fun c => isCode c || c.before args0 about1) = true := by decide +kernel
set_option maxRecDepth 65536 in
theorem w_t4 : ((((words1.drop 24).drop 24).drop 24).take 24).all (fun c => isCode c || c.before args0 about1) = true := by decide +kernel
set_option maxRecDepth 65536 in
theorem w_t5 : ((((words1.drop 24).drop 24).drop 24).drop 24).all (fun c => isCode c || c.before args0 about1) = true := by decide +kernel
theorem w_tables : (allAtoms (Jvm.Cond.code x code maxLocals ret :: tables_1)).before args0 about1 = true := by
  rw [allAtoms_all]
  show words1.all (fun c => c.before args0 about1) = true
  refine all_split ?_ w_codes
  rw [← List.take_append_drop 24 words1, List.all_append, w_t1, ← List.take_append_drop 24 (words1.drop 24), List.all_append, w_t2, ← List.take_append_drop 24 ((words1.drop 24).drop 24), List.all_append, w_t3, ← List.take_append_drop 24 (((words1.drop 24).drop 24).drop 24), List.all_append, w_t4, w_t5]
  rfl
set_option maxRecDepth 65536 in
theorem w_rest : rest_1_c.before args0 about1 = true := by decide +kernel
set_option maxRecDepth 65536 in
theorem w_case : (Jvm.Cond.and given_1 narrow_1).before args0 about1 = true := by decide +kernel
theorem w_applies : (headSpec (Jvm.Cond.code x code maxLocals ret :: tables_1) room_1).applies x e0.platform about1 = true :=
  (Spec.applies_iff w_frames).mpr ⟨w_running, w_runnable, w_alone, w_named, w_hears, w_ripe, w_room, w_tables⟩
theorem atStart : AtStart classFile x code maxLocals ret World_1 tables_1 room_1 Calls_1 rest_1 Pre_1 launch0 p0 e0 about1 theMethod args0 below0 :=
  ⟨lists_1, trivial, launch0.admits_env _ _ _, launch0.least_env, fairChoices_fair.cas, fairChoices_fair.clock, w_frames, w_args, w_heap, w_applies, trivial, w_rest, w_case⟩
end start1
theorem witness_1 : WitnessClaimed_1 := ⟨start1.p0, start1.e0, start1.about1, start1.theMethod, start1.args0, start1.below0, start1.atStart⟩
end Jvm.Pilot.@@N@@
