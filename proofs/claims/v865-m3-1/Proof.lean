import JvmDerived
import JvmDerived.Pilot.@@N@@Statement
import JvmDerived.Pilot.@@N@@Code
set_option linter.unusedVariables false
set_option linter.unusedSimpArgs false
namespace Jvm.Pilot.@@N@@
open Jvm Jvm.ClassFile Sem Op Lib Jvm.Free Jvm.Stand Jvm.LawKit Jvm.RoadKit Bundle Jvm.Pilot.@@N@@.Jvm.D
abbrev own_r (a b c d : Nat) : Room := { frames := a, cells := b, slots := c, locals := d }
abbrev own_m0 : MethodName := ⟨"com/example/horne/horne/term/Atom", "<init>", "(Ljava/lang/String;)V"⟩
abbrev own_m1 : MethodName := ⟨"com/example/horne/horne/term/Indicator", "<init>", "(Ljava/lang/String;I)V"⟩
abbrev own_m2 : MethodName := ⟨"com/example/horne/horne/term/Indicator", "equals", "(Ljava/lang/Object;)Z"⟩
abbrev own_m3 : MethodName := ⟨"com/example/horne/horne/term/IndicatorEqualsPinLaw", "ch", "(II)C"⟩
abbrev own_m4 : MethodName := ⟨"com/example/horne/horne/term/IndicatorEqualsPinLaw", "sameChars", "(III)Z"⟩
abbrev own_m5 : MethodName := ⟨"com/example/horne/horne/term/IndicatorEqualsPinLaw", "str", "(II)Ljava/lang/String;"⟩
abbrev own_m6 : MethodName := ⟨"com/example/horne/horne/term/Term", "<init>", "()V"⟩
abbrev own_m7 : MethodName := ⟨"java/lang/String", "<init>", "([C)V"⟩
abbrev own_m8 : MethodName := ⟨"java/lang/String", "<init>", "([CIILjava/lang/Void;)V"⟩
abbrev own_m9 : MethodName := ⟨"java/lang/String", "equals", "(Ljava/lang/Object;)Z"⟩
abbrev own_m10 : MethodName := ⟨"java/lang/StringLatin1", "equals", "([B[B)Z"⟩
abbrev own_m11 : MethodName := ⟨"java/lang/StringUTF16", "coderFromArrayLen", "([BI)B"⟩
abbrev own_m12 : MethodName := ⟨"java/lang/StringUTF16", "compress", "([CII)[B"⟩
abbrev own_m13 : MethodName := ⟨"java/lang/StringUTF16", "compress", "([CI[BII)I"⟩
abbrev own_m14 : MethodName := ⟨"java/util/Objects", "requireNonNull", "(Ljava/lang/Object;Ljava/lang/String;)Ljava/lang/Object;"⟩
theorem own_w (i : Nat) {d : Jvm.Cond} (h : tables_1[i]? = some d) : d ∈ tables_1 := List.mem_of_getElem? h
def own_Go (p : Program) (e : Env) (below : List Frame) (A B : State) : Prop := ∀ t, Steps p.tables e below B t → Steps p.tables e below A t
abbrev own_top {p : Program} {e : Env} {below : List Frame} {A T : State} {g : JFrame} (_ : own_Go p e below A (T.setTop g)) : JFrame := g
section OwnKit
variable {p : Program} {l : Launch} {e : Env} {R : Room} {s : State} {m : MethodId} {args : Array Value} {below : List Frame} {meth : Method} {c : Code} {T : State} {locs : List Loc} {cells slots : Nat}
theorem retI (X : Stand p l e R s m args below meth c T locs cells slots) (hx : p.tables.exec = Jvm.exec) {pc : Nat} {Ls : Array Slot} {z : Int32} {rest : List Value} (hret : meth.sig.returnType = some .int) (hd : decode c.code pc = .ok (.ireturn, 1)) {fs : List Frame}
    (hl : ∀ (f : JFrame) (acts : List Action), f.method = m → f.locked = none → f.entered = [] → (doReturn e (T.setTop f) acts (some (.int z))).1 = T.setFrames fs) : Steps p.tables e below (T.setTop (mkF m pc Ls (.int z :: rest))) (T.setFrames fs) :=
  retOut X hx hret rfl (Or.inl ⟨rfl, Or.inl rfl, z, rfl⟩) hd hl
theorem own_retR (X : Stand p l e R s m args below meth c T locs cells slots) (hx : p.tables.exec = Jvm.exec) {pc : Nat} {Ls : Array Slot} {w : Value} {t : FieldType} {rest : List Value} (hret : meth.sig.returnType = some t) (ht : t.isReference = true) (hw : w.isRef = true) (hd : decode c.code pc = .ok (.areturn, 1)) {fs : List Frame}
    (hl : ∀ (f : JFrame) (acts : List Action), f.method = m → f.locked = none → f.entered = [] → (doReturn e (T.setTop f) acts (some w)).1 = T.setFrames fs) : Steps p.tables e below (T.setTop (mkF m pc Ls (w :: rest))) (T.setFrames fs) :=
  retOut X hx hret (by cases t <;> cases w <;> simp_all [FieldType.isReference, Value.isRef, narrow]) (Or.inr (Or.inr (Or.inr (Or.inr ⟨rfl, ht, hw⟩)))) hd hl
end OwnKit

theorem own_eqI {args : Array Value} {first s : State} {o : Option Outcome} {idx : List Nat} {t : Term} {k : Int32} (h : (Jvm.Cond.eq t (.int k)).value args first o s idx = some true) : t.eval args first o idx s = some (.int k) := by
  obtain ⟨x, y, h1, h2, h3, h4⟩ := cmp_v (Or.inl h)
  obtain rfl : y = .int k := by simpa [Term.eval] using h2.symm
  obtain ⟨z, rfl⟩ := h4
  simp [Cond.value, h1, h2] at h
  subst h
  exact h1

theorem own_since (s : State) (n : Nat) : s.Since s.vm n := (State.WarmedH.refl s).since n
theorem own_fc {s : State} {vm' : Vm} {own : String} {k : ClassId} (h : s.vm.findClass own = some k) (w : s.Warmed39 vm') : (s.setVm vm').vm.findClass own = some k := by
  rw [show (s.setVm vm').vm = vm' from rfl, w.alike.findClass]; exact h
theorem own_wideMono {s t : State} {o : Outcome} {L : List Loc} {k n k' n' : Nat} (h : ReturnedEndW s o t L k n) (hk : k ≤ k') (hn : n ≤ n') : ReturnedEndW s o t L k' n' := ⟨h.1, h.2.1, h.2.2.1, h.2.2.2.mono hk hn⟩

theorem own_strAtoms (a0 : Array Value) (Z : State) (hw : ∀ d ∈ tables_1, d.before a0 Z = true) : ∀ a ∈ Bundle.stringAtoms, a.before a0 Z = true := by
  intro a ha
  simp only [Bundle.stringAtoms, List.mem_cons, List.not_mem_nil, or_false] at ha
  rcases ha with rfl | rfl | rfl | rfl | rfl | rfl | rfl
  · exact (hw _ (own_w 7 rfl))
  · exact (hw _ (own_w 6 rfl))
  · exact (hw _ (own_w 19 rfl))
  · exact (hw _ (own_w 20 rfl))
  · exact (hw _ (own_w 21 rfl))
  · exact (hw _ (own_w 22 rfl))
  · exact (hw _ (own_w 23 rfl))

def own_EL : List (String × Nat) := [("java/lang/String", 7)]
theorem own_ht0 : (∀ c ∈ "".toList, c.toNat < 256) ∧ "".toList.map (fun c => Value.int (Jvm.Lit.byteI c.toNat.toUInt16)) = [] := ⟨by first | decide +kernel | simp, by first | rfl | decide +kernel | simp⟩
theorem own_EW (a0 : Array Value) (Z : State) (hw : ∀ d ∈ tables_1, d.before a0 Z = true) : EW Z a0 own_EL := EW.cons (hw _ (own_w 18 rfl)) own_ht0.1 EW.nil
theorem own_ELsub : ∀ q ∈ own_EL, q ∈ consts_1 := by decide
section OwnHeld
variable {p : Program} {l : Launch} {e : Env} {R : Room} {s : State} {args : Array Value} {below : List Frame} {Z : State} {a0 : Array Value} {EL : List (String × Nat)} {h : Heap} {vm0 : Vm}
theorem own_backH {y : MethodName} {bytes : ByteArray} {maxL : Nat} {ret : Option FieldType} {rm : Room} {len W : Nat} {as' : Array Value} {SF : List Addr} {Q : Option Value → Heap → List Loc → Prop}
    (hM : MetFree l y (head1 [Jvm.Cond.code y bytes maxL ret] rm) (fun a U => a = as' ∧ Z.Warmed39 U.vm ∧ U.heap = h ∧ CHv Z EL U.vm h ∧ ∀ x ∈ SF, Safe Z EL U.vm h x) (fun _ _ _ _ _ => True) (fun _ U o U' => ∃ v L, o = .returned v ∧ Q v U'.heap L ∧ CHr Z EL U.vm U.heap U'.vm U'.heap ∧ ReturnedEndW U o U' L rm.cells rm.slots))
    (hZ : Z.Warmed39 vm0) (wc : (Jvm.Cond.code y bytes maxL ret).before a0 Z = true) (wz : (Jvm.Cond.initialized y.cls).before a0 Z = true) (hf : rm.frames + 1 ≤ R.frames) (hl : W + (maxL + 11) + rm.locals ≤ R.locals) (hEL : EW Z a0 EL) (H : CHv Z EL vm0 h) (hs : ∀ x ∈ SF, Safe Z EL vm0 h x) (hlt : ∀ x ∈ SF, x < h.size) :
    BackS l R p e below (s.setVm vm0) args y len W (fun A a => a = as' ∧ A.U.heap = h ∧ A.cells + rm.cells ≤ R.cells ∧ A.slots + rm.slots ≤ R.slots)
      (fun A _ v B => ∃ L, Q v B.U.heap L ∧ B.locs = A.locs ++ L ∧ B.cells = A.cells + rm.cells ∧ B.slots = A.slots + rm.slots ∧ CHr Z EL vm0 h B.U.vm B.U.heap) :=
  BackS.of_freeW (bytes := bytes) (maxL := maxL) (ret := ret) (E := fun _ first o t L k n => k = rm.cells ∧ n = rm.slots ∧ (∃ v, o = .returned v ∧ Q v t.heap L) ∧ CHr Z EL first.vm first.heap t.vm t.heap) hM hf hl
    (fun m meth c A a Y hp => have hU : Z.Warmed39 A.U.vm := wtrans (s := s.setVm vm0) hZ Y.warmed
      ⟨by show (Jvm.Cond.and _ .tt).before a A.U = true; rw [Cond.before_and, mv hU wc]; rfl, mv hU wc, mv hU wz, hp.2.2.1, hp.2.2.2⟩)
    (fun m meth c A a g mk Y hp => ⟨hp.1, wtrans (s := s.setVm vm0) hZ Y.warmed, hp.2.1, (CHv.at Y hZ hEL H).1, fun x hx => (CHv.at Y hZ hEL H).safe (hlt x hx) (hs x hx)⟩) (fun _ _ _ _ _ _ _ _ _ => trivial)
    (fun _ _ _ _ ⟨v, L, h1, h2, h3, h4⟩ => ⟨L, _, _, h4, rfl, rfl, ⟨v, h1, h2⟩, h3⟩)
    (fun m meth c A a g mk v t L k n Y hp _ _ ⟨e1, e2, ⟨v', e3, e4⟩, e5⟩ => by
      cases e3; subst e1 e2
      refine ⟨L, e4, rfl, rfl, rfl, (CHv.at Y hZ hEL H).trans ?_⟩
      rw [← hp.2.1]; exact e5)
end OwnHeld

def own_SC (Z : State) (wC : Int32) : Prop := Sta Z Z.heap "java/lang/String" "COMPACT_STRINGS" "Z" (.int wC) ∧ ¬ wC = (0 : Int32)
def own_SU (Z : State) : Prop := Sta Z Z.heap "java/lang/StringUTF16" "$assertionsDisabled" "Z" (.int 1) ∧ Sta Z Z.heap "java/lang/StringUTF16" "HI_BYTE_SHIFT" "I" (.int 0) ∧ Sta Z Z.heap "java/lang/StringUTF16" "LO_BYTE_SHIFT" "I" (.int 8)
def own_SF (Z : State) (wF : Value) : Prop := Sta Z Z.heap "jdk/internal/util/Preconditions" "SIOOBE_FORMATTER" "Ljava/util/function/BiFunction;" wF ∧ wF.isRef = true

def own_lb (c : Int32) : Value := .int (nar .byte (c.toInt8.toInt32))
def own_hb (c : Int32) : Value := .int (nar .byte ((c >>> ((0 : Int32) &&& 31)).toInt8.toInt32))
def own_gb (c : Int32) : Value := .int (nar .byte ((c >>> ((8 : Int32) &&& 31)).toInt8.toInt32))
def own_ub : List Int32 → List Value
  | [] => []
  | c :: cs => own_hb c :: own_gb c :: own_ub cs
def own_len (cs : List Int32) : Int32 := Int32.ofNat cs.length
def own_len2 (cs : List Int32) : Int32 := Int32.ofNat (2 * cs.length)
def own_Lat : List Int32 → Prop
  | [] => True
  | c :: cs => (0 ≤ c.toInt ∧ c.toInt < 256) ∧ own_Lat cs
def own_Chr : List Int32 → Prop
  | [] => True
  | c :: cs => (0 ≤ c.toInt ∧ c.toInt < 65536) ∧ own_Chr cs
theorem own_ltOf {c : Int32} (h : ¬ (255 : Int32) < c) : c.toInt < 256 := by
  rw [Int32.lt_iff_toInt_lt, show (255 : Int32).toInt = 255 from rfl] at h
  omega
theorem own_fitAt {Z : State} {h : Heap} {a : Addr} {k : ClassId} {z c : Int32} {vs : List Value} {d : Value} (F : Arv Z h a k .char z vs d) (i : Nat) (hi : i < z.toNatClampNeg) (e : vs.getD i d = .int c) : 0 ≤ c.toInt ∧ c.toInt < 65536 := by
  obtain ⟨cl, -, -, S, -, -, G⟩ := F
  have q := G i (by rw [S]; exact hi)
  rw [e] at q
  have r := rng_char q
  rw [Int32.lt_iff_toInt_lt, Int32.lt_iff_toInt_lt, show (0 : Int32).toInt = 0 from rfl, show (65535 : Int32).toInt = 65535 from rfl] at r
  omega
def own_Str (Z : State) (h : Heap) (a vb : Addr) (kb : ClassId) (cs : List Int32) : Prop :=
  Exa Z h a "java/lang/String" ∧ Fld Z h a "java/lang/String" "value" "[B" (.ref vb) ∧
    ((Fld Z h a "java/lang/String" "coder" "B" (.int 0) ∧ own_Lat cs ∧ Arv Z h vb kb .byte (own_len cs) (cs.map own_lb) (.int 0)) ∨
     (Fld Z h a "java/lang/String" "coder" "B" (.int 1) ∧ own_Chr cs ∧ Arv Z h vb kb .byte (own_len2 cs) (own_ub cs) (.int 0)))
theorem own_Str.ext {Z : State} {h h' : Heap} {a vb : Addr} {kb : ClassId} {cs : List Int32} (F : own_Str Z h a vb kb cs) (E : Ext h h') : own_Str Z h' a vb kb cs := by
  obtain ⟨h1, h2, ⟨h3, h4, h5⟩ | ⟨h3, h4, h5⟩⟩ := F
  · exact ⟨h1.ext E, h2.ext E, Or.inl ⟨h3.ext E, h4, h5.ext E⟩⟩
  · exact ⟨h1.ext E, h2.ext E, Or.inr ⟨h3.ext E, h4, h5.ext E⟩⟩
theorem own_Str.keep {Z : State} {h h' : Heap} {a vb : Addr} {kb : ClassId} {cs : List Int32} {ws : List Addr} (F : own_Str Z h a vb kb cs) (K : Keep h h' ws) (n1 : a ∉ ws) (n2 : vb ∉ ws) : own_Str Z h' a vb kb cs := by
  obtain ⟨h1, h2, ⟨h3, h4, h5⟩ | ⟨h3, h4, h5⟩⟩ := F
  · exact ⟨h1.keep K, h2.keep K n1, Or.inl ⟨h3.keep K n1, h4, h5.keep K n2⟩⟩
  · exact ⟨h1.keep K, h2.keep K n1, Or.inr ⟨h3.keep K n1, h4, h5.keep K n2⟩⟩
theorem own_Str.lt0 {Z : State} {h : Heap} {a vb : Addr} {kb : ClassId} {cs : List Int32} (F : own_Str Z h a vb kb cs) : a < h.size := F.1.lt
theorem own_Str.lt1 {Z : State} {h : Heap} {a vb : Addr} {kb : ClassId} {cs : List Int32} (F : own_Str Z h a vb kb cs) : vb < h.size := by
  obtain ⟨h1, h2, ⟨h3, h4, h5⟩ | ⟨h3, h4, h5⟩⟩ := F
  · exact h5.lt
  · exact h5.lt
def own_gc (b0 b1 : Int32) : Int32 := nar .char ((((b0 &&& (255 : Int32)) <<< ((0 : Int32) &&& 31)) ||| ((b1 &&& (255 : Int32)) <<< ((8 : Int32) &&& 31))).toUInt32.toUInt16.toUInt32.toInt32)
def own_lc (u : Int32) : Int32 := nar .char ((u &&& (255 : Int32)).toUInt32.toUInt16.toUInt32.toInt32)
theorem own_narByte (x : Int32) : ((nar .byte x).toInt - x.toInt) % 256 = 0 := by
  have h := (c_i2b x).1
  show (x.toInt8.toInt32.toInt - x.toInt) % 256 = 0
  exact h
theorem own_narChar (x : Int32) (h0 : 0 ≤ x.toInt) (h1 : x.toInt < 65536) : nar .char x = x := by
  show x.toUInt32.toUInt16.toUInt32.toInt32 = x
  have h := c_i2c x
  exact Int32.toInt_inj.mp (by omega)
theorem own_i2c (x : Int32) (h0 : 0 ≤ x.toInt) (h1 : x.toInt < 65536) : x.toUInt32.toUInt16.toUInt32.toInt32 = x := own_narChar x h0 h1
theorem own_latget (c : Int32) (h : 0 ≤ c.toInt ∧ c.toInt < 256) : own_lc (nar .byte (c.toInt8.toInt32)) = c := by
  have h1 := own_narByte (c.toInt8.toInt32)
  have h2 := (c_i2b c).1
  have h3 := c_mask (nar .byte (c.toInt8.toInt32)) 255 8 (by decide) (by decide)
  have e : (nar .byte (c.toInt8.toInt32)) &&& (255 : Int32) = c := Int32.toInt_inj.mp (by omega)
  unfold own_lc
  rw [e, own_i2c c h.1 (by omega), own_narChar c h.1 (by omega)]
theorem own_utfget (c : Int32) (h : 0 ≤ c.toInt ∧ c.toInt < 65536) : own_gc (nar .byte ((c >>> ((0 : Int32) &&& 31)).toInt8.toInt32)) (nar .byte ((c >>> ((8 : Int32) &&& 31)).toInt8.toInt32)) = c := by
  have s0 := c_ishr c 0 0 (by decide)
  have s8 := c_ishr c 8 8 (by decide)
  have a1 := own_narByte ((c >>> ((0 : Int32) &&& 31)).toInt8.toInt32)
  have a2 := (c_i2b (c >>> ((0 : Int32) &&& 31))).1
  have b1 := own_narByte ((c >>> ((8 : Int32) &&& 31)).toInt8.toInt32)
  have b2 := (c_i2b (c >>> ((8 : Int32) &&& 31))).1
  unfold own_gc
  generalize nar .byte ((c >>> ((0 : Int32) &&& 31)).toInt8.toInt32) = x at *
  generalize nar .byte ((c >>> ((8 : Int32) &&& 31)).toInt8.toInt32) = y at *
  have m1 := c_mask x 255 8 (by decide) (by decide)
  have m2 := c_mask y 255 8 (by decide) (by decide)
  have t1 := c_ishl (x &&& 255) 0 0 (by decide)
  have t2 := c_ishl (y &&& 255) 8 8 (by decide)
  generalize (c >>> ((0 : Int32) &&& 31)).toInt8.toInt32 = u at *
  generalize (c >>> ((8 : Int32) &&& 31)).toInt8.toInt32 = v at *
  have r1 := rng32 ((x &&& 255) <<< ((0 : Int32) &&& 31))
  have r2 := rng32 ((y &&& 255) <<< ((8 : Int32) &&& 31))
  have r3 := rng32 (((x &&& 255) <<< ((0 : Int32) &&& 31)) ||| ((y &&& 255) <<< ((8 : Int32) &&& 31)))
  have o := c_or' ((x &&& 255) <<< ((0 : Int32) &&& 31)) ((y &&& 255) <<< ((8 : Int32) &&& 31)) 8 (by decide) 256 (by decide) (by omega) (by omega) (by omega)
  have e : ((x &&& 255) <<< ((0 : Int32) &&& 31)) ||| ((y &&& 255) <<< ((8 : Int32) &&& 31)) = c := Int32.toInt_inj.mp (by omega)
  rw [e, own_i2c c h.1 h.2, own_narChar c h.1 h.2]

theorem own_narChar2 (b0 b1 : Int32) : nar .char (own_gc b0 b1) = own_gc b0 b1 := by
  have h := c_i2c ((((b0 &&& (255 : Int32)) <<< ((0 : Int32) &&& 31)) ||| ((b1 &&& (255 : Int32)) <<< ((8 : Int32) &&& 31))).toUInt32.toUInt16.toUInt32.toInt32)
  exact own_narChar _ h.2.1 h.2.2

def own_StrL (Z : State) (h : Heap) (a vb : Addr) (kb : ClassId) (cs : List Int32) : Prop :=
  Exa Z h a "java/lang/String" ∧ Fld Z h a "java/lang/String" "value" "[B" (.ref vb) ∧ Fld Z h a "java/lang/String" "coder" "B" (.int 0) ∧ Arv Z h vb kb .byte (own_len cs) (cs.map own_lb) (.int 0)
theorem own_StrL.ext {Z : State} {h h' : Heap} {a vb : Addr} {kb : ClassId} {cs : List Int32} (F : own_StrL Z h a vb kb cs) (E : Ext h h') : own_StrL Z h' a vb kb cs := ⟨F.1.ext E, F.2.1.ext E, F.2.2.1.ext E, F.2.2.2.ext E⟩
theorem own_StrL.keep {Z : State} {h h' : Heap} {a vb : Addr} {kb : ClassId} {cs : List Int32} {ws : List Addr} (F : own_StrL Z h a vb kb cs) (K : Keep h h' ws) (n1 : a ∉ ws) (n2 : vb ∉ ws) : own_StrL Z h' a vb kb cs := ⟨F.1.keep K, F.2.1.keep K n1, F.2.2.1.keep K n1, F.2.2.2.keep K n2⟩
theorem own_StrL.lt0 {Z : State} {h : Heap} {a vb : Addr} {kb : ClassId} {cs : List Int32} (F : own_StrL Z h a vb kb cs) : a < h.size := F.1.lt
theorem own_StrL.lt1 {Z : State} {h : Heap} {a vb : Addr} {kb : ClassId} {cs : List Int32} (F : own_StrL Z h a vb kb cs) : vb < h.size := F.2.2.2.lt

theorem d13_0 : decode jdk_52_method_15_code 0 = .ok (.iload_n 1, 1) := by decide +kernel
theorem d13_1 : decode jdk_52_method_15_code 1 = .ok (.aload_n 0, 1) := by decide +kernel
theorem d13_2 : decode jdk_52_method_15_code 2 = .ok (.arraylength, 1) := by decide +kernel
theorem d13_3 : decode jdk_52_method_15_code 3 = .ok (.isub, 1) := by decide +kernel
theorem d13_4 : decode jdk_52_method_15_code 4 = .ok (.bipush 31, 2) := by decide +kernel
theorem d13_6 : decode jdk_52_method_15_code 6 = .ok (.iushr, 1) := by decide +kernel
theorem d13_7 : decode jdk_52_method_15_code 7 = .ok (.i2b, 1) := by decide +kernel
theorem d13_8 : decode jdk_52_method_15_code 8 = .ok (.ireturn, 1) := by decide +kernel
theorem pn_13 : plainName "java/lang/StringUTF16" = true := by first | (simp [plainName, overriddenIn]; done) | decide +kernel
theorem ef_cofa (m : MethodId) (x0 : Addr) (x1 : Int32) : entryFrame m #[(.ref x0), (.int x1)] 2 = mkF m 0 #[.val (.ref x0), .val (.int x1)] [] := by first | (simp [entryFrame, mkF, argsToLocals, Value.category]; done) | rfl
def own_cofa (p2 : Int32) (z1 : Int32) : Int32 := (nar .byte ((((p2 - z1).toUInt32 >>> ((31 : Int32) &&& 31).toUInt32).toInt32).toInt8.toInt32))
def Qcofa (Z : State) (a1 : Addr) (p2 : Int32) (k1 : ClassId) (z1 : Int32) (vs : List Value) (d1 : Value) (h0 : Heap) (n0 : Nat) (v : Option Value) (h : Heap) (L : List Loc) : Prop := v = (some (.int (own_cofa p2 z1))) ∧ Fr n0 L ∧ h = h0
set_option maxRecDepth 65536 in
set_option maxHeartbeats 40000000 in
theorem rmcofa (l : Launch) (Z : State) (a0 : Array Value) (hw : ∀ d ∈ tables_1, d.before a0 Z = true) (ws : List Jvm.Cond) (a1 : Addr) (p2 : Int32) (k1 : ClassId) (z1 : Int32) (vs : List Value) (d1 : Value) (h0 : Heap) (n0 : Nat) (Z0 : n0 ≤ h0.size) (V1 : Arv Z h0 a1 k1 .byte z1 vs d1) :
    MetFree l own_m11 (head1 (Jvm.Cond.code own_m11 jdk_52_method_15_code 2 (some .byte) :: ws) (own_r 0 0 0 0)) (fun a U => a = #[(.ref a1), (.int p2)] ∧ Z.Warmed39 U.vm ∧ U.heap = h0) (fun _ _ _ _ _ => True) (fun _ U o U' => ∃ v L, o = .returned v ∧ Qcofa Z a1 p2 k1 z1 vs d1 h0 n0 v U'.heap L ∧ FrameEnd U o U' L (own_r 0 0 0 0).cells (own_r 0 0 0 0).slots) := by
  refine MetFree.of_bodySF (plainFor_of_name pn_13) hisR ?_
  intro p e s m args below meth c s₁ Bd hml0 hP hK
  obtain ⟨rfl, hZ, hh⟩ := hP
  have hx := Bd.exec
  have hby := Bd.bytes
  have hml : c.maxLocals = 2 := hml0
  have hown0 := findClass_of_methodNamed Bd.named
  have hown : s.vm.findClass "java/lang/StringUTF16" = some m.cls := hown0
  have hnm := (name_of_methodNamed Bd.named Bd.method).1
  have X0 : Stand p l e (own_r 0 0 0 0) s m #[(.ref a1), (.int p2)] below meth c s₁ [] 0 0 := Stand.of_body Bd
  have e0 : s₁.heap = h0 := by rw [← hh, Bd.state]; rfl
  have N0 := Fr.nil n0
  obtain ⟨S0, hS0⟩ : ∃ z, z = s₁.setTop (entryFrame m #[(.ref a1), (.int p2)] 2) := ⟨_, rfl⟩
  have pre0 : own_Go p e below S0 (s₁.setTop (mkF m 0 #[.val (.ref a1), .val (.int p2)] [])) := fun t k => by rw [hS0]; exact castTop (ef_cofa m a1 p2) k
  have fin : ∀ t, Steps p.tables e below S0 t → Steps p.tables e below (s₁.setTop (entryFrame m #[(.ref a1), (.int p2)] 2)) t := fun t k => by rw [hS0] at k; exact k
  have pre1 : own_Go p e below S0 (s₁.setTop (mkF m 2 #[.val (.ref a1), .val (.int p2)] [(.ref a1), (.int p2)])) := by
    intro t kt
    refine pre0 t ?_
    refine XS.iloadN X0.here hx rfl (hb hby d13_0) rfl ?_
    refine XS.aloadN X0.here hx rfl (hb hby d13_1) rfl rfl ?_
    exact kt
  obtain ⟨cl2, Ar2, -, Sz2, Ng2, -, -⟩ := id V1
  have pre3 : own_Go p e below S0 (s₁.setTop (mkF m 8 #[.val (.ref a1), .val (.int p2)] [(.int ((((p2 - z1).toUInt32 >>> ((31 : Int32) &&& 31).toUInt32).toInt32).toInt8.toInt32))])) := by
    intro t kt
    refine pre1 t ?_
    refine X0.arraylength hx (by rw [e0]; exact Ar2.1) (State.isArrayOf_alike hZ.alike Ar2.2.1) (g := (mkF m 2 #[.val (.ref a1), .val (.int p2)] [(.ref a1), (.int p2)])) rfl rfl (hb hby d13_2) _ ?_
    rw [len_of Sz2 Ng2]
    show Steps p.tables e below (s₁.setTop (mkF m 3 #[.val (.ref a1), .val (.int p2)] [(.int z1), (.int p2)])) _
    refine XS.isub X0.here hx rfl (hb hby d13_3) rfl ?_
    refine XS.bipush X0.here hx rfl (hb hby d13_4) ?_
    show Steps p.tables e below (s₁.setTop (mkF m 6 #[.val (.ref a1), .val (.int p2)] [(.int 31), (.int (p2 - z1))])) _
    refine XS.iushr X0.here hx rfl (hb hby d13_6) rfl ?_
    refine XS.i2b X0.here hx rfl (hb hby d13_7) rfl ?_
    exact kt
  obtain ⟨fs, hr, hrun, hended, hW, hsame⟩ := X0.leave (v := some (.int (nar .byte ((((p2 - z1).toUInt32 >>> ((31 : Int32) &&& 31).toUInt32).toInt32).toInt8.toInt32)))) (fun h => by rw [Bd.returns] at h; cases h)
  refine ⟨_, _, fin _ (pre3 _ ?_), hrun, hended, _, _, rfl, ?_, ⟨_, rfl⟩, hW, hsame.mono (by decide) (by decide)⟩
  · exact retN X0 hx (t := .byte) Bd.returns (by simp) (hb hby d13_8) hr
  · show Qcofa Z a1 p2 k1 z1 vs d1 h0 n0 _ s₁.heap _
    rw [e0]
    exact ⟨(by show some _ = some _; rw [own_cofa]), N0, rfl⟩

theorem d3_0 : decode jdk_42_method_149_code 0 = .ok (.aload_n 0, 1) := by decide +kernel
theorem d3_1 : decode jdk_42_method_149_code 1 = .ok (.invokespecial 1, 3) := by decide +kernel
theorem d3_4 : decode jdk_42_method_149_code 4 = .ok (.iload_n 3, 1) := by decide +kernel
theorem d3_5 : decode jdk_42_method_149_code 5 = .ok (.ifCond .ne 22, 3) := by decide +kernel
theorem d3_8 : decode jdk_42_method_149_code 8 = .ok (.aload_n 0, 1) := by decide +kernel
theorem d3_9 : decode jdk_42_method_149_code 9 = .ok (.ldc 7, 2) := by decide +kernel
theorem d3_11 : decode jdk_42_method_149_code 11 = .ok (.getfield 9, 3) := by decide +kernel
theorem d3_14 : decode jdk_42_method_149_code 14 = .ok (.putfield 9, 3) := by decide +kernel
theorem d3_17 : decode jdk_42_method_149_code 17 = .ok (.aload_n 0, 1) := by decide +kernel
theorem d3_18 : decode jdk_42_method_149_code 18 = .ok (.ldc 7, 2) := by decide +kernel
theorem d3_20 : decode jdk_42_method_149_code 20 = .ok (.getfield 15, 3) := by decide +kernel
theorem d3_23 : decode jdk_42_method_149_code 23 = .ok (.putfield 15, 3) := by decide +kernel
theorem d3_26 : decode jdk_42_method_149_code 26 = .ok (.return_, 1) := by decide +kernel
theorem pn_3 : plainName "java/lang/String" = true := by first | (simp [plainName, overriddenIn]; done) | decide +kernel
theorem ef_ini4L0 (m : MethodId) (x0 : Addr) (x1 : Addr) : entryFrame m #[(.ref x0), (.ref x1), (.int 0), (.int 0), .null] 6 = mkF m 0 #[.val (.ref x0), .val (.ref x1), .val (.int 0), .val (.int 0), .val .null, .unset] [] := by first | (simp [entryFrame, mkF, argsToLocals, Value.category]; done) | rfl
def Qini4L0 (Z : State) (a1 : Addr) (a2 : Addr) (h0 : Heap) (n0 : Nat) (v : Option Value) (h : Heap) (L : List Loc) : Prop := ∃ vb : Addr, ∃ kb : ClassId, v = none ∧ Fr n0 L ∧ Keep h0 h [a1] ∧ own_StrL Z h a1 vb kb []
set_option maxRecDepth 65536 in
set_option maxHeartbeats 40000000 in
theorem rmini4L0 (l : Launch) (Z : State) (a0 : Array Value) (hw : ∀ d ∈ tables_1, d.before a0 Z = true) (ws : List Jvm.Cond) (a1 : Addr) (a2 : Addr) (h0 : Heap) (n0 : Nat) (Z0 : n0 ≤ h0.size) (O0 : Old Z n0 h0) (pE1 : Exa Z h0 a1 "java/lang/String") (pF1 : Fld Z h0 a1 "java/lang/String" "value" "[B" .null) (pF2 : Fld Z h0 a1 "java/lang/String" "coder" "B" (.int 0)) (pg1 : n0 ≤ a1) :
    MetFree l own_m8 (head1 (Jvm.Cond.code own_m8 jdk_42_method_149_code 6 none :: ws) (own_r 1 2 4 12)) (fun a U => a = #[(.ref a1), (.ref a2), (.int 0), (.int 0), .null] ∧ Z.Warmed39 U.vm ∧ U.heap = h0 ∧ CHv Z own_EL U.vm h0 ∧ ∀ x ∈ ([a1] : List Addr), Safe Z own_EL U.vm h0 x) (fun _ _ _ _ _ => True) (fun _ U o U' => ∃ v L, o = .returned v ∧ Qini4L0 Z a1 a2 h0 n0 v U'.heap L ∧ CHr Z own_EL U.vm U.heap U'.vm U'.heap ∧ ReturnedEndW U o U' L (own_r 1 2 4 12).cells (own_r 1 2 4 12).slots) := by
  refine MetFree.of_bodySF (plainFor_of_name pn_3) hisR ?_
  intro p e s m args below meth c s₁ Bd hml0 hP hK
  obtain ⟨rfl, hZ, hh, hCH, hSF⟩ := hP
  have hx := Bd.exec
  have hby := Bd.bytes
  have hml : c.maxLocals = 6 := hml0
  have hown0 := findClass_of_methodNamed Bd.named
  have hown : s.vm.findClass "java/lang/String" = some m.cls := hown0
  have hnm := (name_of_methodNamed Bd.named Bd.method).1
  have X0 : Stand p l e (own_r 1 2 4 12) s m #[(.ref a1), (.ref a2), (.int 0), (.int 0), .null] below meth c s₁ [] 0 0 := Stand.of_body Bd
  have e0 : s₁.heap = h0 := by rw [← hh, Bd.state]; rfl
  have N0 := Fr.nil n0
  obtain ⟨S0, hS0⟩ : ∃ z, z = s₁.setTop (entryFrame m #[(.ref a1), (.ref a2), (.int 0), (.int 0), .null] 6) := ⟨_, rfl⟩
  have pre0 : own_Go p e below S0 (s₁.setTop (mkF m 0 #[.val (.ref a1), .val (.ref a2), .val (.int 0), .val (.int 0), .val .null, .unset] [])) := fun t k => by rw [hS0]; exact castTop (ef_ini4L0 m a1 a2) k
  have fin : ∀ t, Steps p.tables e below S0 t → Steps p.tables e below (s₁.setTop (entryFrame m #[(.ref a1), (.ref a2), (.int 0), (.int 0), .null] 6)) t := fun t k => by rw [hS0] at k; exact k
  have ch0 : CHr Z own_EL s.vm h0 s.vm h0 := CHr.refl hCH
  have sf0 : Safe Z own_EL s.vm h0 a1 := hSF _ (List.mem_of_getElem? (i := 0) rfl)
  have kc0 : Keep h0 h0 [a1] := Keep.refl _ _
  have pre1 : own_Go p e below S0 (s₁.setTop (mkF m 1 #[.val (.ref a1), .val (.ref a2), .val (.int 0), .val (.int 0), .val .null, .unset] [(.ref a1)])) := by
    intro t kt
    refine pre0 t ?_
    refine XS.aloadN X0.here hx rfl (hb hby d3_0) rfl rfl ?_
    exact kt
  obtain ⟨T2, X2, e2, st2⟩ := initO X0 hx hZ hown (hw _ (own_w 15 rfl)) (hw _ (own_w 16 rfl)) (hw _ (own_w 17 rfl)) e0 (g := (mkF m 1 #[.val (.ref a1), .val (.ref a2), .val (.int 0), .val (.int 0), .val .null, .unset] [(.ref a1)])) rfl (by rw [hml]; rfl) rfl (hb hby d3_1) (by decide) (W := 0) (by show 2 * 0 + _ ≤ _; exact Nat.le_of_eq rfl) (by decide)
  have pre3 : own_Go p e below S0 (T2.setTop (mkF m 9 #[.val (.ref a1), .val (.ref a2), .val (.int 0), .val (.int 0), .val .null, .unset] [(.ref a1)])) := by
    intro t kt
    refine pre1 t ?_
    refine st2 _ ?_
    refine XS.iloadN X2.here hx rfl (hb hby d3_4) rfl ?_
    refine XS.ifNo X2.here hx rfl (hb hby d3_5) rfl ((if0 _ _).trans (teq (by decide : (0 : Int32) = (0 : Int32))).2) ?_
    refine XS.aloadN X2.here hx rfl (hb hby d3_8) rfl rfl ?_
    show Steps p.tables e below (T2.setTop (mkF m 9 #[.val (.ref a1), .val (.ref a2), .val (.int 0), .val (.int 0), .val .null, .unset] [(.ref a1)])) _
    exact kt
  obtain ⟨b4, T4, h4, k4, v4, kv4, X4, e4, E4, hS4, hk4, hZ, hown, xE4, xC4, xF4, xV4, -, -, cr4, L4, hne4, st4⟩ := ldcCH (s := s) (vm0 := s.vm) X2 hx hZ hown (hw _ (own_w 18 rfl)) (own_strAtoms a0 Z hw) e2 (own_since s 0) (Nat.zero_le _) (own_EW a0 Z hw) (List.mem_of_getElem? (i := 0) rfl) ch0.1 (vs := []) (z := 0) own_ht0 (by decide) (by decide) (g := (mkF m 9 #[.val (.ref a1), .val (.ref a2), .val (.int 0), .val (.int 0), .val .null, .unset] [(.ref a1)])) rfl (hb hby d3_9) (n := 0) (by decide +kernel) (by decide) (by decide) (by decide)
  have zs5 : n0 ≤ h4.size := Nat.le_trans Z0 E4.1
  have kc6 : Keep h0 h4 [a1] := kc0.ext E4
  have ch7 : CHr Z own_EL s.vm h0 T4.vm h4 := ch0.trans (cr4)
  have sf8 : Safe Z own_EL T4.vm h4 a1 := cr4.safe pE1.lt sf0
  have ne9 : a1 ≠ b4 := (hne4 _ sf8).1
  have ne10 : a1 ≠ v4 := (hne4 _ sf8).2
  have pre11 : own_Go p e below S0 (T4.setTop (mkF m 11 #[.val (.ref a1), .val (.ref a2), .val (.int 0), .val (.int 0), .val .null, .unset] [(.ref b4), (.ref a1)])) := by
    intro t kt
    refine pre3 t ?_
    refine st4 _ ?_
    exact kt
  obtain ⟨T12, X12, e12, st12⟩ := getF X4 hx hZ hown (host := "") (Or.inl (hw _ (own_w 24 rfl))) Via.refl e4 xF4 (g := (mkF m 11 #[.val (.ref a1), .val (.ref a2), .val (.int 0), .val (.int 0), .val .null, .unset] [(.ref b4), (.ref a1)])) rfl rfl (hb hby d3_11)
  have pre13 : own_Go p e below S0 (T12.setTop (mkF m 14 #[.val (.ref a1), .val (.ref a2), .val (.int 0), .val (.int 0), .val .null, .unset] [(.ref v4), (.ref a1)])) := by
    intro t kt
    refine pre11 t ?_
    refine st12 _ ?_
    exact kt
  have f14 : Fld Z h4 a1 "java/lang/String" "value" "[B" .null := (pF1.ext E4)
  have f15 : Exa Z h4 a1 "java/lang/String" := (pE1.ext E4)
  obtain ⟨T16, h16, X16, e16, W16, st16⟩ := putF X12 hx hZ hown (host := "") (Or.inl (hw _ (own_w 24 rfl))) Via.refl e12 f14 f15 (Or.inr ⟨(hw _ (own_w 20 rfl)), rfl, hnm⟩) (hw _ (own_w 6 rfl)) (ty := (.array .byte)) (by decide) rfl rfl (g := (mkF m 14 #[.val (.ref a1), .val (.ref a2), .val (.int 0), .val (.int 0), .val .null, .unset] [(.ref v4), (.ref a1)])) rfl rfl (hb hby d3_14)
  have N16 := Fr.snoc X16 N0 pg1
  have zs17 : n0 ≤ h16.size := Nat.le_trans zs5 (Keep.of_wr W16).1
  have kc18 : Keep h0 h16 [a1] := kc6.wr W16 (Or.inl (List.mem_of_getElem? (i := 0) rfl))
  have hk19 : _ ≤ h16.size := Nat.le_trans hk4 (Keep.of_wr W16).1
  have ch20 : CHr Z own_EL s.vm h0 T4.vm h16 := ch7.trans (CHr.wr W16 sf8 ch7.1)
  have sf21 : Safe Z own_EL T4.vm h16 a1 := Safe.wr W16 sf8 ch7.1 sf8
  have fw16 : Fld Z h16 a1 "java/lang/String" "value" "[B" (.ref v4) := f14.same W16
  have pre22 : own_Go p e below S0 (T16.setTop (mkF m 18 #[.val (.ref a1), .val (.ref a2), .val (.int 0), .val (.int 0), .val .null, .unset] [(.ref a1)])) := by
    intro t kt
    refine pre13 t ?_
    refine st16 _ ?_
    refine XS.aloadN X16.here hx rfl (hb hby d3_17) rfl rfl ?_
    exact kt
  have pre23 : own_Go p e below S0 (T16.setTop (mkF m 20 #[.val (.ref a1), .val (.ref a2), .val (.int 0), .val (.int 0), .val .null, .unset] [(.ref b4), (.ref a1)])) := by
    intro t kt
    refine pre22 t ?_
    refine ldcAgain (s := s) (vm0 := T4.vm) X16 hx hZ hown (hw _ (own_w 18 rfl)) L4 (g := (mkF m 18 #[.val (.ref a1), .val (.ref a2), .val (.int 0), .val (.int 0), .val .null, .unset] [(.ref a1)])) rfl (hb hby d3_18) _ ?_
    exact kt
  have f24 : Fld Z h16 b4 "java/lang/String" "coder" "B" (.int 0) := (xC4.other W16 (Or.inl (Ne.symm ne9)))
  obtain ⟨T25, X25, e25, st25⟩ := getF X16 hx hZ hown (host := "") (Or.inl (hw _ (own_w 25 rfl))) Via.refl e16 f24 (g := (mkF m 20 #[.val (.ref a1), .val (.ref a2), .val (.int 0), .val (.int 0), .val .null, .unset] [(.ref b4), (.ref a1)])) rfl rfl (hb hby d3_20)
  have pre26 : own_Go p e below S0 (T25.setTop (mkF m 23 #[.val (.ref a1), .val (.ref a2), .val (.int 0), .val (.int 0), .val .null, .unset] [(.int 0), (.ref a1)])) := by
    intro t kt
    refine pre23 t ?_
    refine st25 _ ?_
    exact kt
  have f27 : Fld Z h16 a1 "java/lang/String" "coder" "B" (.int 0) := ((pF2.ext E4).other W16 (Or.inr (slot_ne (Or.inr (hw _ (own_w 21 rfl))) (Or.inr (hw _ (own_w 20 rfl))) (by decide) (t := .byte) (t' := (.array .byte)) (by decide) (by decide))))
  have f28 : Exa Z h16 a1 "java/lang/String" := (f15.wr W16)
  obtain ⟨T29, h29, X29, e29, W29, st29⟩ := putFN X25 hx hZ hown (hw _ (own_w 25 rfl)) Via.refl e25 f27 f28 (Or.inr ⟨(hw _ (own_w 21 rfl)), rfl, hnm⟩) (hw _ (own_w 6 rfl)) (ty := .byte) (v' := (.int 0)) (by decide) rfl (by decide) (g := (mkF m 23 #[.val (.ref a1), .val (.ref a2), .val (.int 0), .val (.int 0), .val .null, .unset] [(.int 0), (.ref a1)])) rfl rfl (hb hby d3_23)
  have N29 := Fr.snoc X29 N16 pg1
  have zs30 : n0 ≤ h29.size := Nat.le_trans zs17 (Keep.of_wr W29).1
  have kc31 : Keep h0 h29 [a1] := kc18.wr W29 (Or.inl (List.mem_of_getElem? (i := 0) rfl))
  have hk32 : _ ≤ h29.size := Nat.le_trans hk19 (Keep.of_wr W29).1
  have ch33 : CHr Z own_EL s.vm h0 T4.vm h29 := ch20.trans (CHr.wr W29 sf21 ch20.1)
  have sf34 : Safe Z own_EL T4.vm h29 a1 := Safe.wr W29 sf21 ch20.1 sf21
  have fw29 : Fld Z h29 a1 "java/lang/String" "coder" "B" (.int 0) := f27.same W29
  have pre35 : own_Go p e below S0 (T29.setTop (mkF m 26 #[.val (.ref a1), .val (.ref a2), .val (.int 0), .val (.int 0), .val .null, .unset] [])) := by
    intro t kt
    refine pre26 t ?_
    refine st29 _ ?_
    exact kt
  have f36 : Exa Z h29 a1 "java/lang/String" := (f28.wr W29)
  have f37 : Fld Z h29 a1 "java/lang/String" "value" "[B" (.ref v4) := (fw16.other W29 (Or.inr (slot_ne (Or.inr (hw _ (own_w 20 rfl))) (Or.inr (hw _ (own_w 21 rfl))) (by decide) (t := (.array .byte)) (t' := .byte) (by decide) (by decide))))
  have f38 : Arv Z h29 v4 kv4 .byte (0 : Int32) [] (.int 0) := ((xV4.other W16 (Ne.symm ne10)).other W29 (Ne.symm ne10))
  obtain ⟨fs, hr, hrun, hended, hRW⟩ := Stand.leaveW (s := s) (vm₁ := T4.vm) X29 hS4 (by rw [e29]; exact hk32) (v := none) (fun _ => rfl)
  refine ⟨_, _, fin _ (pre35 _ ?_), hrun, hended, _, _, rfl, ?_, (by rw [hh]; show CHr Z own_EL s.vm h0 T29.vm T29.heap; rw [e29]; exact ch33.trans (CHv.at (s := s) (vm0 := T4.vm) X29 hZ (own_EW a0 Z hw) ch33.1)), own_wideMono hRW (by decide) (by decide)⟩
  · exact X29.returnOut hx Bd.returns (hb hby d3_26) hr
  · show Qini4L0 Z a1 a2 h0 n0 _ T29.heap _
    rw [e29]
    exact ⟨v4, kv4, rfl, N29, kc31, ⟨f36, f37, fw29, f38⟩⟩

theorem d2_0 : decode jdk_42_method_3_code 0 = .ok (.aload_n 0, 1) := by decide +kernel
theorem d2_1 : decode jdk_42_method_3_code 1 = .ok (.aload_n 1, 1) := by decide +kernel
theorem d2_2 : decode jdk_42_method_3_code 2 = .ok (.iconst 0, 1) := by decide +kernel
theorem d2_3 : decode jdk_42_method_3_code 3 = .ok (.aload_n 1, 1) := by decide +kernel
theorem d2_4 : decode jdk_42_method_3_code 4 = .ok (.arraylength, 1) := by decide +kernel
theorem d2_5 : decode jdk_42_method_3_code 5 = .ok (.aconst_null, 1) := by decide +kernel
theorem d2_6 : decode jdk_42_method_3_code 6 = .ok (.invokespecial 27, 3) := by decide +kernel
theorem d2_9 : decode jdk_42_method_3_code 9 = .ok (.return_, 1) := by decide +kernel
theorem pn_2 : plainName "java/lang/String" = true := by first | (simp [plainName, overriddenIn]; done) | decide +kernel
theorem pd_0 : parseMethodDescriptor "([CIILjava/lang/Void;)V" = some ⟨[(.array .char), .int, .int, (.object "java/lang/Void")], none⟩ := by decide +kernel
theorem ef_ini1L0 (m : MethodId) (x0 : Addr) (x1 : Addr) : entryFrame m #[(.ref x0), (.ref x1)] 2 = mkF m 0 #[.val (.ref x0), .val (.ref x1)] [] := by first | (simp [entryFrame, mkF, argsToLocals, Value.category]; done) | rfl
def Qini1L0 (Z : State) (a1 : Addr) (a2 : Addr) (kc : ClassId) (h0 : Heap) (n0 : Nat) (v : Option Value) (h : Heap) (L : List Loc) : Prop := ∃ vb : Addr, ∃ kb : ClassId, v = none ∧ Fr n0 L ∧ Keep h0 h [a1] ∧ own_StrL Z h a1 vb kb []
set_option maxRecDepth 65536 in
set_option maxHeartbeats 40000000 in
theorem rmini1L0 (l : Launch) (Z : State) (a0 : Array Value) (hw : ∀ d ∈ tables_1, d.before a0 Z = true) (ws : List Jvm.Cond) (a1 : Addr) (a2 : Addr) (kc : ClassId) (h0 : Heap) (n0 : Nat) (Z0 : n0 ≤ h0.size) (O0 : Old Z n0 h0) (pE1 : Exa Z h0 a1 "java/lang/String") (pF1 : Fld Z h0 a1 "java/lang/String" "value" "[B" .null) (pF2 : Fld Z h0 a1 "java/lang/String" "coder" "B" (.int 0)) (pg1 : n0 ≤ a1) (VC : Arv Z h0 a2 kc .char (0 : Int32) [] (.int 0)) :
    MetFree l own_m7 (head1 (Jvm.Cond.code own_m7 jdk_42_method_3_code 2 none :: ws) (own_r 2 2 4 29)) (fun a U => a = #[(.ref a1), (.ref a2)] ∧ Z.Warmed39 U.vm ∧ U.heap = h0 ∧ CHv Z own_EL U.vm h0 ∧ ∀ x ∈ ([a1] : List Addr), Safe Z own_EL U.vm h0 x) (fun _ _ _ _ _ => True) (fun _ U o U' => ∃ v L, o = .returned v ∧ Qini1L0 Z a1 a2 kc h0 n0 v U'.heap L ∧ CHr Z own_EL U.vm U.heap U'.vm U'.heap ∧ ReturnedEndW U o U' L (own_r 2 2 4 29).cells (own_r 2 2 4 29).slots) := by
  refine MetFree.of_bodySF (plainFor_of_name pn_2) hisR ?_
  intro p e s m args below meth c s₁ Bd hml0 hP hK
  obtain ⟨rfl, hZ, hh, hCH, hSF⟩ := hP
  have hx := Bd.exec
  have hby := Bd.bytes
  have hml : c.maxLocals = 2 := hml0
  have hown0 := findClass_of_methodNamed Bd.named
  have hown : s.vm.findClass "java/lang/String" = some m.cls := hown0
  have hnm := (name_of_methodNamed Bd.named Bd.method).1
  have X0 : Stand p l e (own_r 2 2 4 29) s m #[(.ref a1), (.ref a2)] below meth c s₁ [] 0 0 := Stand.of_body Bd
  have e0 : s₁.heap = h0 := by rw [← hh, Bd.state]; rfl
  have N0 := Fr.nil n0
  obtain ⟨S0, hS0⟩ : ∃ z, z = s₁.setTop (entryFrame m #[(.ref a1), (.ref a2)] 2) := ⟨_, rfl⟩
  have pre0 : own_Go p e below S0 (s₁.setTop (mkF m 0 #[.val (.ref a1), .val (.ref a2)] [])) := fun t k => by rw [hS0]; exact castTop (ef_ini1L0 m a1 a2) k
  have fin : ∀ t, Steps p.tables e below S0 t → Steps p.tables e below (s₁.setTop (entryFrame m #[(.ref a1), (.ref a2)] 2)) t := fun t k => by rw [hS0] at k; exact k
  have ch0 : CHr Z own_EL s.vm h0 s.vm h0 := CHr.refl hCH
  have sf0 : Safe Z own_EL s.vm h0 a1 := hSF _ (List.mem_of_getElem? (i := 0) rfl)
  have kc0 : Keep h0 h0 [a1] := Keep.refl _ _
  have pre1 : own_Go p e below S0 (s₁.setTop (mkF m 4 #[.val (.ref a1), .val (.ref a2)] [(.ref a2), (.int 0), (.ref a2), (.ref a1)])) := by
    intro t kt
    refine pre0 t ?_
    refine XS.aloadN X0.here hx rfl (hb hby d2_0) rfl rfl ?_
    refine XS.aloadN X0.here hx rfl (hb hby d2_1) rfl rfl ?_
    refine XS.iconst X0.here hx rfl (hb hby d2_2) ?_
    refine XS.aloadN X0.here hx rfl (hb hby d2_3) rfl rfl ?_
    show Steps p.tables e below (s₁.setTop (mkF m 4 #[.val (.ref a1), .val (.ref a2)] [(.ref a2), (.int 0), (.ref a2), (.ref a1)])) _
    exact kt
  obtain ⟨cl2, Ar2, -, Sz2, Ng2, -, -⟩ := id VC
  have pre3 : own_Go p e below S0 (s₁.setTop (mkF m 6 #[.val (.ref a1), .val (.ref a2)] [.null, (.int 0), (.int 0), (.ref a2), (.ref a1)])) := by
    intro t kt
    refine pre1 t ?_
    refine X0.arraylength hx (by rw [e0]; exact Ar2.1) (State.isArrayOf_alike hZ.alike Ar2.2.1) (g := (mkF m 4 #[.val (.ref a1), .val (.ref a2)] [(.ref a2), (.int 0), (.ref a2), (.ref a1)])) rfl rfl (hb hby d2_4) _ ?_
    rw [len_of Sz2 Ng2]
    show Steps p.tables e below (s₁.setTop (mkF m 5 #[.val (.ref a1), .val (.ref a2)] [(.int 0), (.int 0), (.ref a2), (.ref a1)])) _
    refine XS.aconstNull X0.here hx rfl (hb hby d2_5) ?_
    exact kt
  obtain ⟨_, _, ⟨T4, L4, k4, n4⟩, -, X4, hSn4, hgn4, ⟨Lc4, hQ4, l4, y4, z4, cr4⟩, st4⟩ := X0.specialBackS hx (y := own_m8) rfl hown (mvT hZ (hw _ (own_w 11 rfl))) (mvT hZ (hw _ (own_w 12 rfl))) (mvT hZ (hw _ (own_w 14 rfl))) (by decide) (own_backH (s := s) (vm0 := s.vm) (W := 0) (rmini4L0 l Z a0 hw [] a1 a2 h0 n0 Z0 O0 pE1 pF1 pF2 pg1) hZ (hw _ (own_w 14 rfl)) (hw _ (own_w 7 rfl)) (by decide) (by decide) (own_EW a0 Z hw) ch0.1 (allS sf0 all0) (allS pE1.lt all0)) (g := (mkF m 6 #[.val (.ref a1), .val (.ref a2)] [.null, (.int 0), (.int 0), (.ref a2), (.ref a1)])) rfl (by rw [hml]; rfl) (Steps.refl _) (a := a1) (argsL := [(.ref a2), (.int 0), (.int 0), .null]) (rest := []) (lenOf pd_0 rfl) rfl (by show 2 * 0 + _ ≤ _; exact Nat.le_of_eq rfl) (hb hby d2_6) (fun _ _ => ⟨rfl, e0, (by decide : 0 + 2 ≤ _), (by decide : 0 + 4 ≤ _)⟩)
  dsimp only [Pt.U, Pt.locs, Pt.cells, Pt.slots] at X4 l4 y4 z4 st4 hQ4 hSn4 hgn4 cr4
  subst l4 y4 z4
  have hown := own_fc hown hSn4.1
  have hZ : Z.Warmed39 (s.setVm T4.vm).vm := State.Warmed39.trans (t := s) hZ hSn4.1
  obtain ⟨vb5, kb6, rfl, Nq4, K4, g7⟩ := hQ4
  have N4 := Fr.app N0 Nq4
  have zs8 : n0 ≤ T4.heap.size := Nat.le_trans Z0 K4.1
  have kc9 : Keep h0 T4.heap [a1] := kc0.trans K4 (allS (Or.inl (List.mem_of_getElem? (i := 0) rfl)) all0)
  have ch10 : CHr Z own_EL s.vm h0 T4.vm T4.heap := ch0.trans (cr4)
  have sf11 : Safe Z own_EL T4.vm T4.heap a1 := cr4.safe pE1.lt sf0
  have pre12 : own_Go p e below S0 (T4.setTop (mkF m 9 #[.val (.ref a1), .val (.ref a2)] [])) := by
    intro t kt
    refine pre3 t ?_
    refine st4.trans ?_
    show Steps p.tables e below (T4.setTop (mkF m 9 #[.val (.ref a1), .val (.ref a2)] [])) _
    exact kt
  obtain ⟨fs, hr, hrun, hended, hRW⟩ := Stand.leaveW (s := s) (vm₁ := T4.vm) X4 hSn4 (Nat.le_refl _) (v := none) (fun _ => rfl)
  refine ⟨_, _, fin _ (pre12 _ ?_), hrun, hended, _, _, rfl, ?_, (by rw [hh]; show CHr Z own_EL s.vm h0 T4.vm T4.heap; exact ch10.trans (CHv.at (s := s) (vm0 := T4.vm) X4 hZ (own_EW a0 Z hw) ch10.1)), own_wideMono hRW (by decide) (by decide)⟩
  · exact X4.returnOut hx Bd.returns (hb hby d2_9) hr
  · show Qini1L0 Z a1 a2 kc h0 n0 _ T4.heap _
    exact ⟨vb5, kb6, rfl, N4, kc9, g7⟩

theorem d12_0 : decode jdk_52_method_21_code 0 = .ok (.iconst 0, 1) := by decide +kernel
theorem d12_1 : decode jdk_52_method_21_code 1 = .ok (.istore 5, 2) := by decide +kernel
theorem d12_3 : decode jdk_52_method_21_code 3 = .ok (.iload 5, 2) := by decide +kernel
theorem d12_5 : decode jdk_52_method_21_code 5 = .ok (.iload 4, 2) := by decide +kernel
theorem d12_7 : decode jdk_52_method_21_code 7 = .ok (.if_icmp .ge 37, 3) := by decide +kernel
theorem d12_10 : decode jdk_52_method_21_code 10 = .ok (.aload_n 0, 1) := by decide +kernel
theorem d12_11 : decode jdk_52_method_21_code 11 = .ok (.iload_n 1, 1) := by decide +kernel
theorem d12_12 : decode jdk_52_method_21_code 12 = .ok (.caload, 1) := by decide +kernel
theorem d12_13 : decode jdk_52_method_21_code 13 = .ok (.istore 6, 2) := by decide +kernel
theorem d12_15 : decode jdk_52_method_21_code 15 = .ok (.iload 6, 2) := by decide +kernel
theorem d12_17 : decode jdk_52_method_21_code 17 = .ok (.sipush 255, 3) := by decide +kernel
theorem d12_20 : decode jdk_52_method_21_code 20 = .ok (.if_icmp .le 6, 3) := by decide +kernel
theorem d12_26 : decode jdk_52_method_21_code 26 = .ok (.aload_n 2, 1) := by decide +kernel
theorem d12_27 : decode jdk_52_method_21_code 27 = .ok (.iload_n 3, 1) := by decide +kernel
theorem d12_28 : decode jdk_52_method_21_code 28 = .ok (.iload 6, 2) := by decide +kernel
theorem d12_30 : decode jdk_52_method_21_code 30 = .ok (.i2b, 1) := by decide +kernel
theorem d12_31 : decode jdk_52_method_21_code 31 = .ok (.bastore, 1) := by decide +kernel
theorem d12_32 : decode jdk_52_method_21_code 32 = .ok (.iinc 1 1, 3) := by decide +kernel
theorem d12_35 : decode jdk_52_method_21_code 35 = .ok (.iinc 3 1, 3) := by decide +kernel
theorem d12_38 : decode jdk_52_method_21_code 38 = .ok (.iinc 5 1, 3) := by decide +kernel
theorem d12_41 : decode jdk_52_method_21_code 41 = .ok (.goto (-38), 3) := by decide +kernel
theorem d12_44 : decode jdk_52_method_21_code 44 = .ok (.iload 4, 2) := by decide +kernel
theorem d12_46 : decode jdk_52_method_21_code 46 = .ok (.ireturn, 1) := by decide +kernel
theorem pn_12 : plainName "java/lang/StringUTF16" = true := by first | (simp [plainName, overriddenIn]; done) | decide +kernel
theorem ef_cmp5L1 (m : MethodId) (x0 : Addr) (x2 : Addr) : entryFrame m #[(.ref x0), (.int 0), (.ref x2), (.int 0), (.int 1)] 7 = mkF m 0 #[.val (.ref x0), .val (.int 0), .val (.ref x2), .val (.int 0), .val (.int 1), .unset, .unset] [] := by first | (simp [entryFrame, mkF, argsToLocals, Value.category]; done) | rfl
def Qcmp5L1 (Z : State) (a1 : Addr) (a2 : Addr) (kc : ClassId) (kb : ClassId) (c0 : Int32) (h0 : Heap) (n0 : Nat) (v : Option Value) (h : Heap) (L : List Loc) : Prop := v = (some (.int 1)) ∧ Fr n0 L ∧ Keep h0 h [a2] ∧ Arv Z h a2 kb .byte (1 : Int32) [(.int (nar .byte (c0.toInt8.toInt32)))] (.int 0)
set_option maxRecDepth 65536 in
set_option maxHeartbeats 40000000 in
theorem rmcmp5L1 (l : Launch) (Z : State) (a0 : Array Value) (hw : ∀ d ∈ tables_1, d.before a0 Z = true) (ws : List Jvm.Cond) (a1 : Addr) (a2 : Addr) (kc : ClassId) (kb : ClassId) (c0 : Int32) (h0 : Heap) (n0 : Nat) (Z0 : n0 ≤ h0.size) (VC : Arv Z h0 a1 kc .char (1 : Int32) [(.int c0)] (.int 0)) (g2 : n0 ≤ a2) (VB : Arv Z h0 a2 kb .byte (1 : Int32) [(.int 0)] (.int 0)) (n12 : a1 ≠ a2) (lt_0 : (¬ (255 : Int32) < c0)) :
    MetFree l own_m13 (head1 (Jvm.Cond.code own_m13 jdk_52_method_21_code 7 (some .int) :: ws) (own_r 0 0 0 0)) (fun a U => a = #[(.ref a1), (.int 0), (.ref a2), (.int 0), (.int 1)] ∧ Z.Warmed39 U.vm ∧ U.heap = h0) (fun _ _ _ _ _ => True) (fun _ U o U' => ∃ v L, o = .returned v ∧ Qcmp5L1 Z a1 a2 kc kb c0 h0 n0 v U'.heap L ∧ FrameEnd U o U' L (own_r 0 0 0 0).cells (own_r 0 0 0 0).slots) := by
  refine MetFree.of_bodySF (plainFor_of_name pn_12) hisR ?_
  intro p e s m args below meth c s₁ Bd hml0 hP hK
  obtain ⟨rfl, hZ, hh⟩ := hP
  have hx := Bd.exec
  have hby := Bd.bytes
  have hml : c.maxLocals = 7 := hml0
  have hown0 := findClass_of_methodNamed Bd.named
  have hown : s.vm.findClass "java/lang/StringUTF16" = some m.cls := hown0
  have hnm := (name_of_methodNamed Bd.named Bd.method).1
  have X0 : Stand p l e (own_r 0 0 0 0) s m #[(.ref a1), (.int 0), (.ref a2), (.int 0), (.int 1)] below meth c s₁ [] 0 0 := Stand.of_body Bd
  have e0 : s₁.heap = h0 := by rw [← hh, Bd.state]; rfl
  have N0 := Fr.nil n0
  obtain ⟨S0, hS0⟩ : ∃ z, z = s₁.setTop (entryFrame m #[(.ref a1), (.int 0), (.ref a2), (.int 0), (.int 1)] 7) := ⟨_, rfl⟩
  have pre0 : own_Go p e below S0 (s₁.setTop (mkF m 0 #[.val (.ref a1), .val (.int 0), .val (.ref a2), .val (.int 0), .val (.int 1), .unset, .unset] [])) := fun t k => by rw [hS0]; exact castTop (ef_cmp5L1 m a1 a2) k
  have fin : ∀ t, Steps p.tables e below S0 t → Steps p.tables e below (s₁.setTop (entryFrame m #[(.ref a1), (.int 0), (.ref a2), (.int 0), (.int 1)] 7)) t := fun t k => by rw [hS0] at k; exact k
  have kc0 : Keep h0 h0 [a2] := Keep.refl _ _
  have pre1 : own_Go p e below S0 (s₁.setTop (mkF m 12 #[.val (.ref a1), .val (.int 0), .val (.ref a2), .val (.int 0), .val (.int 1), .val (.int 0), .unset] [(.int 0), (.ref a1)])) := by
    intro t kt
    refine pre0 t ?_
    refine XS.iconst X0.here hx rfl (hb hby d12_0) ?_
    refine XS.istore X0.here hx rfl (hb hby d12_1) rfl (l' := #[.val (.ref a1), .val (.int 0), .val (.ref a2), .val (.int 0), .val (.int 1), .val (.int 0), .unset]) rfl ?_
    refine XS.iload X0.here hx rfl (hb hby d12_3) rfl ?_
    refine XS.iload X0.here hx rfl (hb hby d12_5) rfl ?_
    show Steps p.tables e below (s₁.setTop (mkF m 7 #[.val (.ref a1), .val (.int 0), .val (.ref a2), .val (.int 0), .val (.int 1), .val (.int 0), .unset] [(.int 1), (.int 0)])) _
    refine XS.icmpNo X0.here hx rfl (hb hby d12_7) rfl (tlt (by decide : (0 : Int32) < (1 : Int32))).2.1 ?_
    refine XS.aloadN X0.here hx rfl (hb hby d12_10) rfl rfl ?_
    refine XS.iloadN X0.here hx rfl (hb hby d12_11) rfl ?_
    exact kt
  obtain ⟨cl2, Ar2, -, Sz2, -, Hs2, -⟩ := id VC
  have hin2 : ¬ ((0 : Int32) < 0 ∨ cl2.slots.size ≤ ((0 : Int32)).toNatClampNeg) := inb_of Sz2 ⟨by decide, by decide⟩
  have pre3 : own_Go p e below S0 (s₁.setTop (mkF m 31 #[.val (.ref a1), .val (.int 0), .val (.ref a2), .val (.int 0), .val (.int 1), .val (.int 0), .val (.int c0)] [(.int (c0.toInt8.toInt32)), (.int 0), (.ref a2)])) := by
    intro t kt
    refine pre1 t ?_
    refine X0.caload hx (j := (0 : Int32)) (v := (.int c0)) (by rw [e0]; exact Ar2.1) (State.isArrayOf_alike hZ.alike Ar2.2.1) Ar2.2.2 hin2 (Hs2.at hin2 rfl) (g := (mkF m 12 #[.val (.ref a1), .val (.int 0), .val (.ref a2), .val (.int 0), .val (.int 1), .val (.int 0), .unset] [(.int 0), (.ref a1)])) rfl rfl (hb hby d12_12) _ ?_
    refine XS.istore X0.here hx rfl (hb hby d12_13) rfl (l' := #[.val (.ref a1), .val (.int 0), .val (.ref a2), .val (.int 0), .val (.int 1), .val (.int 0), .val (.int c0)]) rfl ?_
    refine XS.iload X0.here hx rfl (hb hby d12_15) rfl ?_
    refine XS.sipush X0.here hx rfl (hb hby d12_17) ?_
    show Steps p.tables e below (s₁.setTop (mkF m 20 #[.val (.ref a1), .val (.int 0), .val (.ref a2), .val (.int 0), .val (.int 1), .val (.int 0), .val (.int c0)] [(.int 255), (.int c0)])) _
    refine XS.icmpYes X0.here hx rfl (pc0 := 20) (pc' := 26) rfl (hb hby d12_20) rfl (flt lt_0).2.2.2 (by decide) (by decide) ?_
    refine XS.aloadN X0.here hx rfl (hb hby d12_26) rfl rfl ?_
    refine XS.iloadN X0.here hx rfl (hb hby d12_27) rfl ?_
    refine XS.iload X0.here hx rfl (hb hby d12_28) rfl ?_
    show Steps p.tables e below (s₁.setTop (mkF m 30 #[.val (.ref a1), .val (.int 0), .val (.ref a2), .val (.int 0), .val (.int 1), .val (.int 0), .val (.int c0)] [(.int c0), (.int 0), (.ref a2)])) _
    refine XS.i2b X0.here hx rfl (hb hby d12_30) rfl ?_
    exact kt
  obtain ⟨cl4, Ar4, q4, Sz4, Ng4, Hs4, Gt4⟩ := id VB
  have hin4 : ¬ ((0 : Int32) < 0 ∨ cl4.slots.size ≤ ((0 : Int32)).toNatClampNeg) := inb_of Sz4 ⟨by decide, by decide⟩
  obtain ⟨T4, h4, X4, e4, W4, st4⟩ := stB X0 hx hZ e0 Ar4 (j := (0 : Int32)) hin4 (g := (mkF m 31 #[.val (.ref a1), .val (.int 0), .val (.ref a2), .val (.int 0), .val (.int 1), .val (.int 0), .val (.int c0)] [(.int (c0.toInt8.toInt32)), (.int 0), (.ref a2)])) rfl rfl (hb hby d12_31)
  have N4 := Fr.snoc X4 N0 g2
  have zs5 : n0 ≤ h4.size := Nat.le_trans Z0 (Keep.of_wr W4).1
  have kc6 : Keep h0 h4 [a2] := kc0.wr W4 (Or.inl (List.mem_of_getElem? (i := 0) rfl))
  have V4 : Arv Z h4 a2 kb .byte (1 : Int32) [(.int (nar .byte (c0.toInt8.toInt32)))] (.int 0) := Arv.set Ar4 q4 Sz4 Ng4 Hs4 Gt4 (fits_nar_byte _) W4 0 rfl (Nat.le_of_ble_eq_true rfl)
  have pre7 : own_Go p e below S0 (T4.setTop (mkF m 46 #[.val (.ref a1), .val (.int 1), .val (.ref a2), .val (.int 1), .val (.int 1), .val (.int 1), .val (.int c0)] [(.int 1)])) := by
    intro t kt
    refine pre3 t ?_
    refine st4 _ ?_
    refine XS.iinc X4.here hx rfl (hb hby d12_32) rfl (l' := #[.val (.ref a1), .val (.int 1), .val (.ref a2), .val (.int 0), .val (.int 1), .val (.int 0), .val (.int c0)]) rfl ?_
    refine XS.iinc X4.here hx rfl (hb hby d12_35) rfl (l' := #[.val (.ref a1), .val (.int 1), .val (.ref a2), .val (.int 1), .val (.int 1), .val (.int 0), .val (.int c0)]) rfl ?_
    refine XS.iinc X4.here hx rfl (hb hby d12_38) rfl (l' := #[.val (.ref a1), .val (.int 1), .val (.ref a2), .val (.int 1), .val (.int 1), .val (.int 1), .val (.int c0)]) rfl ?_
    show Steps p.tables e below (T4.setTop (mkF m 41 #[.val (.ref a1), .val (.int 1), .val (.ref a2), .val (.int 1), .val (.int 1), .val (.int 1), .val (.int c0)] [])) _
    refine XS.goto X4.here hx rfl (pc0 := 41) (pc' := 3) rfl (hb hby d12_41) (by decide) (by decide) ?_
    refine XS.iload X4.here hx rfl (hb hby d12_3) rfl ?_
    refine XS.iload X4.here hx rfl (hb hby d12_5) rfl ?_
    refine XS.icmpYes X4.here hx rfl (pc0 := 7) (pc' := 44) rfl (hb hby d12_7) rfl (flt (by decide : ¬ ((1 : Int32) < (1 : Int32)))).2.1 (by decide) (by decide) ?_
    show Steps p.tables e below (T4.setTop (mkF m 44 #[.val (.ref a1), .val (.int 1), .val (.ref a2), .val (.int 1), .val (.int 1), .val (.int 1), .val (.int c0)] [])) _
    refine XS.iload X4.here hx rfl (hb hby d12_44) rfl ?_
    exact kt
  obtain ⟨fs, hr, hrun, hended, hW, hsame⟩ := X4.leave (v := some (.int 1)) (fun h => by rw [Bd.returns] at h; cases h)
  refine ⟨_, _, fin _ (pre7 _ ?_), hrun, hended, _, _, rfl, ?_, ⟨_, rfl⟩, hW, hsame.mono (by decide) (by decide)⟩
  · exact retI X4 hx Bd.returns (hb hby d12_46) hr
  · show Qcmp5L1 Z a1 a2 kc kb c0 h0 n0 _ T4.heap _
    rw [e4]
    exact ⟨rfl, N4, kc6, V4⟩

theorem d11_0 : decode jdk_52_method_16_code 0 = .ok (.iload_n 2, 1) := by decide +kernel
theorem d11_1 : decode jdk_52_method_16_code 1 = .ok (.newarray .byte, 2) := by decide +kernel
theorem d11_3 : decode jdk_52_method_16_code 3 = .ok (.astore_n 3, 1) := by decide +kernel
theorem d11_4 : decode jdk_52_method_16_code 4 = .ok (.aload_n 0, 1) := by decide +kernel
theorem d11_5 : decode jdk_52_method_16_code 5 = .ok (.iload_n 1, 1) := by decide +kernel
theorem d11_6 : decode jdk_52_method_16_code 6 = .ok (.aload_n 3, 1) := by decide +kernel
theorem d11_7 : decode jdk_52_method_16_code 7 = .ok (.iconst 0, 1) := by decide +kernel
theorem d11_8 : decode jdk_52_method_16_code 8 = .ok (.iload_n 2, 1) := by decide +kernel
theorem d11_9 : decode jdk_52_method_16_code 9 = .ok (.invokestatic 115, 3) := by decide +kernel
theorem d11_12 : decode jdk_52_method_16_code 12 = .ok (.istore 4, 2) := by decide +kernel
theorem d11_14 : decode jdk_52_method_16_code 14 = .ok (.iload 4, 2) := by decide +kernel
theorem d11_16 : decode jdk_52_method_16_code 16 = .ok (.iload_n 2, 1) := by decide +kernel
theorem d11_17 : decode jdk_52_method_16_code 17 = .ok (.if_icmp .eq 40, 3) := by decide +kernel
theorem d11_57 : decode jdk_52_method_16_code 57 = .ok (.aload_n 3, 1) := by decide +kernel
theorem d11_58 : decode jdk_52_method_16_code 58 = .ok (.areturn, 1) := by decide +kernel
theorem pn_11 : plainName "java/lang/StringUTF16" = true := by first | (simp [plainName, overriddenIn]; done) | decide +kernel
theorem pd_1 : parseMethodDescriptor "([CI[BII)I" = some ⟨[(.array .char), .int, (.array .byte), .int, .int], some .int⟩ := by decide +kernel
theorem ef_cmp3L1 (m : MethodId) (x0 : Addr) : entryFrame m #[(.ref x0), (.int 0), (.int 1)] 6 = mkF m 0 #[.val (.ref x0), .val (.int 0), .val (.int 1), .unset, .unset, .unset] [] := by first | (simp [entryFrame, mkF, argsToLocals, Value.category]; done) | rfl
def Qcmp3L1 (Z : State) (a1 : Addr) (kc : ClassId) (c0 : Int32) (h0 : Heap) (n0 : Nat) (v : Option Value) (h : Heap) (L : List Loc) : Prop := ∃ b : Addr, ∃ kb : ClassId, v = (some (.ref b)) ∧ Fr n0 L ∧ Keep h0 h [] ∧ h0.size ≤ b ∧ Arv Z h b kb .byte (1 : Int32) [(.int (nar .byte (c0.toInt8.toInt32)))] (.int 0)
set_option maxRecDepth 65536 in
set_option maxHeartbeats 40000000 in
theorem rmcmp3L1 (l : Launch) (Z : State) (a0 : Array Value) (hw : ∀ d ∈ tables_1, d.before a0 Z = true) (ws : List Jvm.Cond) (a1 : Addr) (kc : ClassId) (c0 : Int32) (h0 : Heap) (n0 : Nat) (Z0 : n0 ≤ h0.size) (VC : Arv Z h0 a1 kc .char (1 : Int32) [(.int c0)] (.int 0)) (lt_0 : (¬ (255 : Int32) < c0)) :
    MetFree l own_m12 (head1 (Jvm.Cond.code own_m12 jdk_52_method_16_code 6 (some (.array .byte)) :: ws) (own_r 1 1 1 18)) (fun a U => a = #[(.ref a1), (.int 0), (.int 1)] ∧ Z.Warmed39 U.vm ∧ U.heap = h0) (fun _ _ _ _ _ => True) (fun _ U o U' => ∃ v L, o = .returned v ∧ Qcmp3L1 Z a1 kc c0 h0 n0 v U'.heap L ∧ FrameEnd U o U' L (own_r 1 1 1 18).cells (own_r 1 1 1 18).slots) := by
  refine MetFree.of_bodySF (plainFor_of_name pn_11) hisR ?_
  intro p e s m args below meth c s₁ Bd hml0 hP hK
  obtain ⟨rfl, hZ, hh⟩ := hP
  have hx := Bd.exec
  have hby := Bd.bytes
  have hml : c.maxLocals = 6 := hml0
  have hown0 := findClass_of_methodNamed Bd.named
  have hown : s.vm.findClass "java/lang/StringUTF16" = some m.cls := hown0
  have hnm := (name_of_methodNamed Bd.named Bd.method).1
  have X0 : Stand p l e (own_r 1 1 1 18) s m #[(.ref a1), (.int 0), (.int 1)] below meth c s₁ [] 0 0 := Stand.of_body Bd
  have e0 : s₁.heap = h0 := by rw [← hh, Bd.state]; rfl
  have N0 := Fr.nil n0
  obtain ⟨S0, hS0⟩ : ∃ z, z = s₁.setTop (entryFrame m #[(.ref a1), (.int 0), (.int 1)] 6) := ⟨_, rfl⟩
  have pre0 : own_Go p e below S0 (s₁.setTop (mkF m 0 #[.val (.ref a1), .val (.int 0), .val (.int 1), .unset, .unset, .unset] [])) := fun t k => by rw [hS0]; exact castTop (ef_cmp3L1 m a1) k
  have fin : ∀ t, Steps p.tables e below S0 t → Steps p.tables e below (s₁.setTop (entryFrame m #[(.ref a1), (.int 0), (.int 1)] 6)) t := fun t k => by rw [hS0] at k; exact k
  have kc0 : Keep h0 h0 [] := Keep.refl _ _
  have pre1 : own_Go p e below S0 (s₁.setTop (mkF m 1 #[.val (.ref a1), .val (.int 0), .val (.int 1), .unset, .unset, .unset] [(.int 1)])) := by
    intro t kt
    refine pre0 t ?_
    refine XS.iloadN X0.here hx rfl (hb hby d11_0) rfl ?_
    exact kt
  obtain ⟨T2, h2, k2, X2, e2, E2, A2, st2⟩ := newP X0 hx hZ (hw _ (own_w 19 rfl)) e0 (g := (mkF m 1 #[.val (.ref a1), .val (.int 0), .val (.int 1), .unset, .unset, .unset] [(.int 1)])) rfl (hb hby d11_1) rfl (by decide) (cap := 1) (by decide) (by decide) (by decide) (by decide)
  obtain ⟨b2, g2⟩ : ∃ z, z = h0.size := ⟨_, rfl⟩
  rw [← g2] at A2 st2
  have ne3 : a1 ≠ b2 := Nat.ne_of_lt (Nat.lt_of_lt_of_le VC.lt (Nat.le_of_eq g2.symm))
  have ge4 : n0 ≤ b2 := Nat.le_trans Z0 (Nat.le_of_eq g2.symm)
  have sz5 : h0.size ≤ b2 := Nat.le_trans kc0.1 (Nat.le_of_eq g2.symm)
  have zs6 : n0 ≤ h2.size := Nat.le_trans Z0 E2.1
  have kc7 : Keep h0 h2 [] := kc0.ext E2
  have V2 : Arv Z h2 b2 k2 .byte (1 : Int32) [(.int 0)] (.int 0) := (Arv.new A2 (by decide)).pad (pad_rep [] (.int 0) 1)
  have pre8 : own_Go p e below S0 (T2.setTop (mkF m 9 #[.val (.ref a1), .val (.int 0), .val (.int 1), .val (.ref b2), .unset, .unset] [(.int 1), (.int 0), (.ref b2), (.int 0), (.ref a1)])) := by
    intro t kt
    refine pre1 t ?_
    refine st2 _ ?_
    refine XS.astoreN X2.here hx rfl (hb hby d11_3) rfl rfl (l' := #[.val (.ref a1), .val (.int 0), .val (.int 1), .val (.ref b2), .unset, .unset]) rfl ?_
    refine XS.aloadN X2.here hx rfl (hb hby d11_4) rfl rfl ?_
    refine XS.iloadN X2.here hx rfl (hb hby d11_5) rfl ?_
    show Steps p.tables e below (T2.setTop (mkF m 6 #[.val (.ref a1), .val (.int 0), .val (.int 1), .val (.ref b2), .unset, .unset] [(.int 0), (.ref a1)])) _
    refine XS.aloadN X2.here hx rfl (hb hby d11_6) rfl rfl ?_
    refine XS.iconst X2.here hx rfl (hb hby d11_7) ?_
    refine XS.iloadN X2.here hx rfl (hb hby d11_8) rfl ?_
    exact kt
  have f9 : Arv Z h2 a1 kc .char (1 : Int32) [(.int c0)] (.int 0) := (VC.ext E2)
  obtain ⟨_, _, ⟨T10, L10, k10, n10⟩, -, X10, ⟨Lc10, hQ10, l10, y10, z10⟩, st10⟩ := Jvm.LawKit.callS X2 hx (y := own_m13) hown (mvT hZ (hw _ (own_w 77 rfl))) (mvT hZ (hw _ (own_w 78 rfl))) (mvT hZ (hw _ (own_w 75 rfl))) (mvT hZ (hw _ (own_w 79 rfl))) (by decide) (backOf (W := 0) (rmcmp5L1 l Z a0 hw [] a1 b2 kc k2 c0 h2 n0 zs6 f9 ge4 V2 ne3 lt_0) hZ (hw _ (own_w 79 rfl)) (hw _ (own_w 75 rfl)) (by decide) (by decide)) (g := (mkF m 9 #[.val (.ref a1), .val (.int 0), .val (.int 1), .val (.ref b2), .unset, .unset] [(.int 1), (.int 0), (.ref b2), (.int 0), (.ref a1)])) rfl (by rw [hml]; rfl) (argsL := [(.ref a1), (.int 0), (.ref b2), (.int 0), (.int 1)]) (rest := []) (lenOf pd_1 rfl) rfl (by show 2 * 0 + _ ≤ _; exact Nat.le_of_eq rfl) (hb hby d11_9) (fun _ _ => ⟨rfl, e2, (by decide : 1 + 0 ≤ _), (by decide : 1 + 0 ≤ _)⟩)
  dsimp only [Pt.U, Pt.locs, Pt.cells, Pt.slots] at X10 l10 y10 z10 st10 hQ10
  subst l10 y10 z10
  obtain ⟨rfl, Nq10, K10, g11⟩ := hQ10
  have N10 := Fr.app N0 Nq10
  have zs12 : n0 ≤ T10.heap.size := Nat.le_trans zs6 K10.1
  have kc13 : Keep h0 T10.heap [] := kc7.trans K10 (allS (Or.inr sz5) all0)
  have pre14 : own_Go p e below S0 (T10.setTop (mkF m 58 #[.val (.ref a1), .val (.int 0), .val (.int 1), .val (.ref b2), .val (.int 1), .unset] [(.ref b2)])) := by
    intro t kt
    refine pre8 t ?_
    refine st10 _ ?_
    show Steps p.tables e below (T10.setTop (mkF m 12 #[.val (.ref a1), .val (.int 0), .val (.int 1), .val (.ref b2), .unset, .unset] [(.int 1)])) _
    refine XS.istore X10.here hx rfl (hb hby d11_12) rfl (l' := #[.val (.ref a1), .val (.int 0), .val (.int 1), .val (.ref b2), .val (.int 1), .unset]) rfl ?_
    refine XS.iload X10.here hx rfl (hb hby d11_14) rfl ?_
    refine XS.iloadN X10.here hx rfl (hb hby d11_16) rfl ?_
    show Steps p.tables e below (T10.setTop (mkF m 17 #[.val (.ref a1), .val (.int 0), .val (.int 1), .val (.ref b2), .val (.int 1), .unset] [(.int 1), (.int 1)])) _
    refine XS.icmpYes X10.here hx rfl (pc0 := 17) (pc' := 57) rfl (hb hby d11_17) rfl (teq (by decide : (1 : Int32) = (1 : Int32))).1 (by decide) (by decide) ?_
    refine XS.aloadN X10.here hx rfl (hb hby d11_57) rfl rfl ?_
    exact kt
  obtain ⟨fs, hr, hrun, hended, hW, hsame⟩ := X10.leave (v := some (.ref b2)) (fun h => by rw [Bd.returns] at h; cases h)
  refine ⟨_, _, fin _ (pre14 _ ?_), hrun, hended, _, _, rfl, ?_, ⟨_, rfl⟩, hW, hsame.mono (by decide) (by decide)⟩
  · jvm_step X10.here [X10.here.top, hx, (hb hby d11_58), X10.method', Bd.returns, Value.isRef, FieldType.isReference]
    first | (intro acts; rw [hr _ acts rfl rfl rfl]) | rw [hr _ _ rfl rfl rfl]
    exact Steps.refl _
  · show Qcmp3L1 Z a1 kc c0 h0 n0 _ T10.heap _
    exact ⟨b2, k2, rfl, N10, kc13, sz5, g11⟩

theorem d3_27 : decode jdk_42_method_149_code 27 = .ok (.getstatic 38, 3) := by decide +kernel
theorem d3_30 : decode jdk_42_method_149_code 30 = .ok (.ifCond .eq 28, 3) := by decide +kernel
theorem d3_33 : decode jdk_42_method_149_code 33 = .ok (.aload_n 1, 1) := by decide +kernel
theorem d3_34 : decode jdk_42_method_149_code 34 = .ok (.iload_n 2, 1) := by decide +kernel
theorem d3_35 : decode jdk_42_method_149_code 35 = .ok (.iload_n 3, 1) := by decide +kernel
theorem d3_36 : decode jdk_42_method_149_code 36 = .ok (.invokestatic 177, 3) := by decide +kernel
theorem d3_39 : decode jdk_42_method_149_code 39 = .ok (.astore 5, 2) := by decide +kernel
theorem d3_41 : decode jdk_42_method_149_code 41 = .ok (.aload_n 0, 1) := by decide +kernel
theorem d3_42 : decode jdk_42_method_149_code 42 = .ok (.aload 5, 2) := by decide +kernel
theorem d3_44 : decode jdk_42_method_149_code 44 = .ok (.iload_n 3, 1) := by decide +kernel
theorem d3_45 : decode jdk_42_method_149_code 45 = .ok (.invokestatic 47, 3) := by decide +kernel
theorem d3_48 : decode jdk_42_method_149_code 48 = .ok (.putfield 15, 3) := by decide +kernel
theorem d3_51 : decode jdk_42_method_149_code 51 = .ok (.aload_n 0, 1) := by decide +kernel
theorem d3_52 : decode jdk_42_method_149_code 52 = .ok (.aload 5, 2) := by decide +kernel
theorem d3_54 : decode jdk_42_method_149_code 54 = .ok (.putfield 9, 3) := by decide +kernel
theorem d3_57 : decode jdk_42_method_149_code 57 = .ok (.return_, 1) := by decide +kernel
theorem pd_2 : parseMethodDescriptor "([CII)[B" = some ⟨[(.array .char), .int, .int], some (.array .byte)⟩ := by decide +kernel
theorem pd_3 : parseMethodDescriptor "([BI)B" = some ⟨[(.array .byte), .int], some .byte⟩ := by decide +kernel
theorem ef_ini4L1 (m : MethodId) (x0 : Addr) (x1 : Addr) : entryFrame m #[(.ref x0), (.ref x1), (.int 0), (.int 1), .null] 6 = mkF m 0 #[.val (.ref x0), .val (.ref x1), .val (.int 0), .val (.int 1), .val .null, .unset] [] := by first | (simp [entryFrame, mkF, argsToLocals, Value.category]; done) | rfl
def Qini4L1 (Z : State) (a1 : Addr) (a2 : Addr) (kc : ClassId) (c0 : Int32) (wC : Int32) (h0 : Heap) (n0 : Nat) (v : Option Value) (h : Heap) (L : List Loc) : Prop := ∃ vb : Addr, ∃ kb : ClassId, v = none ∧ Fr n0 L ∧ Keep h0 h [a1] ∧ h0.size ≤ vb ∧ own_StrL Z h a1 vb kb [c0]
set_option maxRecDepth 65536 in
set_option maxHeartbeats 40000000 in
theorem rmini4L1 (l : Launch) (Z : State) (a0 : Array Value) (hw : ∀ d ∈ tables_1, d.before a0 Z = true) (ws : List Jvm.Cond) (a1 : Addr) (a2 : Addr) (kc : ClassId) (c0 : Int32) (wC : Int32) (h0 : Heap) (n0 : Nat) (Z0 : n0 ≤ h0.size) (O0 : Old Z n0 h0) (qC : (own_SC Z wC)) (pE1 : Exa Z h0 a1 "java/lang/String") (pF1 : Fld Z h0 a1 "java/lang/String" "value" "[B" .null) (pF2 : Fld Z h0 a1 "java/lang/String" "coder" "B" (.int 0)) (pg1 : n0 ≤ a1) (VC : Arv Z h0 a2 kc .char (1 : Int32) [(.int c0)] (.int 0)) (lt_0 : (¬ (255 : Int32) < c0)) :
    MetFree l own_m8 (head1 (Jvm.Cond.code own_m8 jdk_42_method_149_code 6 none :: ws) (own_r 2 1 1 35)) (fun a U => a = #[(.ref a1), (.ref a2), (.int 0), (.int 1), .null] ∧ Z.Warmed39 U.vm ∧ U.heap = h0) (fun _ _ _ _ _ => True) (fun _ U o U' => ∃ v L, o = .returned v ∧ Qini4L1 Z a1 a2 kc c0 wC h0 n0 v U'.heap L ∧ FrameEnd U o U' L (own_r 2 1 1 35).cells (own_r 2 1 1 35).slots) := by
  refine MetFree.of_bodySF (plainFor_of_name pn_3) hisR ?_
  intro p e s m args below meth c s₁ Bd hml0 hP hK
  obtain ⟨rfl, hZ, hh⟩ := hP
  have hx := Bd.exec
  have hby := Bd.bytes
  have hml : c.maxLocals = 6 := hml0
  have hown0 := findClass_of_methodNamed Bd.named
  have hown : s.vm.findClass "java/lang/String" = some m.cls := hown0
  have hnm := (name_of_methodNamed Bd.named Bd.method).1
  have X0 : Stand p l e (own_r 2 1 1 35) s m #[(.ref a1), (.ref a2), (.int 0), (.int 1), .null] below meth c s₁ [] 0 0 := Stand.of_body Bd
  have e0 : s₁.heap = h0 := by rw [← hh, Bd.state]; rfl
  have N0 := Fr.nil n0
  obtain ⟨S0, hS0⟩ : ∃ z, z = s₁.setTop (entryFrame m #[(.ref a1), (.ref a2), (.int 0), (.int 1), .null] 6) := ⟨_, rfl⟩
  have pre0 : own_Go p e below S0 (s₁.setTop (mkF m 0 #[.val (.ref a1), .val (.ref a2), .val (.int 0), .val (.int 1), .val .null, .unset] [])) := fun t k => by rw [hS0]; exact castTop (ef_ini4L1 m a1 a2) k
  have fin : ∀ t, Steps p.tables e below S0 t → Steps p.tables e below (s₁.setTop (entryFrame m #[(.ref a1), (.ref a2), (.int 0), (.int 1), .null] 6)) t := fun t k => by rw [hS0] at k; exact k
  have kc0 : Keep h0 h0 [a1] := Keep.refl _ _
  have pre1 : own_Go p e below S0 (s₁.setTop (mkF m 1 #[.val (.ref a1), .val (.ref a2), .val (.int 0), .val (.int 1), .val .null, .unset] [(.ref a1)])) := by
    intro t kt
    refine pre0 t ?_
    refine XS.aloadN X0.here hx rfl (hb hby d3_0) rfl rfl ?_
    exact kt
  obtain ⟨T2, X2, e2, st2⟩ := initO X0 hx hZ hown (hw _ (own_w 15 rfl)) (hw _ (own_w 16 rfl)) (hw _ (own_w 17 rfl)) e0 (g := (mkF m 1 #[.val (.ref a1), .val (.ref a2), .val (.int 0), .val (.int 1), .val .null, .unset] [(.ref a1)])) rfl (by rw [hml]; rfl) rfl (hb hby d3_1) (by decide) (W := 0) (by show 2 * 0 + _ ≤ _; exact Nat.le_of_eq rfl) (by decide)
  have pre3 : own_Go p e below S0 (T2.setTop (mkF m 27 #[.val (.ref a1), .val (.ref a2), .val (.int 0), .val (.int 1), .val .null, .unset] [])) := by
    intro t kt
    refine pre1 t ?_
    refine st2 _ ?_
    refine XS.iloadN X2.here hx rfl (hb hby d3_4) rfl ?_
    refine XS.ifYes X2.here hx rfl (pc0 := 5) (pc' := 27) rfl (hb hby d3_5) rfl ((if0 _ _).trans (feq (by decide : ¬ ((1 : Int32) = (0 : Int32)))).2) (by decide) (by decide) ?_
    exact kt
  obtain ⟨T4, X4, e4, st4⟩ := getS2 X2 hx hZ hown (host := "") (Or.inl (hw _ (own_w 72 rfl))) Via.refl e2 (qC.1.ext O0.2) (g := (mkF m 27 #[.val (.ref a1), .val (.ref a2), .val (.int 0), .val (.int 1), .val .null, .unset] [])) rfl (hb hby d3_27)
  have pre5 : own_Go p e below S0 (T4.setTop (mkF m 36 #[.val (.ref a1), .val (.ref a2), .val (.int 0), .val (.int 1), .val .null, .unset] [(.int 1), (.int 0), (.ref a2)])) := by
    intro t kt
    refine pre3 t ?_
    refine st4 _ ?_
    refine XS.ifNo X4.here hx rfl (hb hby d3_30) rfl ((if0 _ _).trans (feq qC.2).1) ?_
    refine XS.aloadN X4.here hx rfl (hb hby d3_33) rfl rfl ?_
    refine XS.iloadN X4.here hx rfl (hb hby d3_34) rfl ?_
    show Steps p.tables e below (T4.setTop (mkF m 35 #[.val (.ref a1), .val (.ref a2), .val (.int 0), .val (.int 1), .val .null, .unset] [(.int 0), (.ref a2)])) _
    refine XS.iloadN X4.here hx rfl (hb hby d3_35) rfl ?_
    exact kt
  obtain ⟨_, _, ⟨T6, L6, k6, n6⟩, -, X6, ⟨Lc6, hQ6, l6, y6, z6⟩, st6⟩ := Jvm.LawKit.callS X4 hx (y := own_m12) hown (mvT hZ (hw _ (own_w 73 rfl))) (mvT hZ (hw _ (own_w 74 rfl))) (mvT hZ (hw _ (own_w 75 rfl))) (mvT hZ (hw _ (own_w 76 rfl))) (by decide) (backOf (W := 0) (rmcmp3L1 l Z a0 hw [] a2 kc c0 h0 n0 Z0 VC lt_0) hZ (hw _ (own_w 76 rfl)) (hw _ (own_w 75 rfl)) (by decide) (by decide)) (g := (mkF m 36 #[.val (.ref a1), .val (.ref a2), .val (.int 0), .val (.int 1), .val .null, .unset] [(.int 1), (.int 0), (.ref a2)])) rfl (by rw [hml]; rfl) (argsL := [(.ref a2), (.int 0), (.int 1)]) (rest := []) (lenOf pd_2 rfl) rfl (by show 2 * 0 + _ ≤ _; exact Nat.le_of_eq rfl) (hb hby d3_36) (fun _ _ => ⟨rfl, e4, (by decide : 0 + 1 ≤ _), (by decide : 0 + 1 ≤ _)⟩)
  dsimp only [Pt.U, Pt.locs, Pt.cells, Pt.slots] at X6 l6 y6 z6 st6 hQ6
  subst l6 y6 z6
  obtain ⟨b7, kb8, rfl, Nq6, K6, g9, g10⟩ := hQ6
  have N6 := Fr.app N0 Nq6
  have ne11 : a1 ≠ b7 := Nat.ne_of_lt (Nat.lt_of_lt_of_le pE1.lt g9)
  have ne12 : a2 ≠ b7 := Nat.ne_of_lt (Nat.lt_of_lt_of_le VC.lt g9)
  have ge13 : n0 ≤ b7 := Nat.le_trans Z0 g9
  have sz14 : h0.size ≤ b7 := Nat.le_trans kc0.1 g9
  have zs15 : n0 ≤ T6.heap.size := Nat.le_trans Z0 K6.1
  have kc16 : Keep h0 T6.heap [a1] := kc0.trans K6 all0
  have pre17 : own_Go p e below S0 (T6.setTop (mkF m 45 #[.val (.ref a1), .val (.ref a2), .val (.int 0), .val (.int 1), .val .null, .val (.ref b7)] [(.int 1), (.ref b7), (.ref a1)])) := by
    intro t kt
    refine pre5 t ?_
    refine st6 _ ?_
    show Steps p.tables e below (T6.setTop (mkF m 39 #[.val (.ref a1), .val (.ref a2), .val (.int 0), .val (.int 1), .val .null, .unset] [(.ref b7)])) _
    refine XS.astore X6.here hx rfl (hb hby d3_39) rfl rfl (l' := #[.val (.ref a1), .val (.ref a2), .val (.int 0), .val (.int 1), .val .null, .val (.ref b7)]) rfl ?_
    refine XS.aloadN X6.here hx rfl (hb hby d3_41) rfl rfl ?_
    refine XS.aload X6.here hx rfl (hb hby d3_42) rfl rfl ?_
    show Steps p.tables e below (T6.setTop (mkF m 44 #[.val (.ref a1), .val (.ref a2), .val (.int 0), .val (.int 1), .val .null, .val (.ref b7)] [(.ref b7), (.ref a1)])) _
    refine XS.iloadN X6.here hx rfl (hb hby d3_44) rfl ?_
    exact kt
  obtain ⟨_, _, ⟨T18, L18, k18, n18⟩, -, X18, ⟨Lc18, hQ18, l18, y18, z18⟩, st18⟩ := Jvm.LawKit.callS X6 hx (y := own_m11) hown (mvT hZ (hw _ (own_w 80 rfl))) (mvT hZ (hw _ (own_w 81 rfl))) (mvT hZ (hw _ (own_w 75 rfl))) (mvT hZ (hw _ (own_w 82 rfl))) (by decide) (backOf (W := 1) (rmcofa l Z a0 hw [] b7 (1 : Int32) kb8 (1 : Int32) [(.int (nar .byte (c0.toInt8.toInt32)))] (.int 0) T6.heap n0 zs15 g10) hZ (hw _ (own_w 82 rfl)) (hw _ (own_w 75 rfl)) (by decide) (by decide)) (g := (mkF m 45 #[.val (.ref a1), .val (.ref a2), .val (.int 0), .val (.int 1), .val .null, .val (.ref b7)] [(.int 1), (.ref b7), (.ref a1)])) rfl (by rw [hml]; rfl) (argsL := [(.ref b7), (.int 1)]) (rest := [(.ref a1)]) (lenOf pd_3 rfl) rfl (by show 2 * 0 + _ ≤ _; exact Nat.le_of_eq rfl) (hb hby d3_45) (fun _ _ => ⟨rfl, rfl, (by decide : 1 + 0 ≤ _), (by decide : 1 + 0 ≤ _)⟩)
  dsimp only [Pt.U, Pt.locs, Pt.cells, Pt.slots] at X18 l18 y18 z18 st18 hQ18
  subst l18 y18 z18
  obtain ⟨rfl, Nq18, eq18⟩ := hQ18
  have N18 := Fr.app N6 Nq18
  have pre19 : own_Go p e below S0 (T18.setTop (mkF m 48 #[.val (.ref a1), .val (.ref a2), .val (.int 0), .val (.int 1), .val .null, .val (.ref b7)] [(.int (own_cofa (1 : Int32) (1 : Int32))), (.ref a1)])) := by
    intro t kt
    refine pre17 t ?_
    refine st18 _ ?_
    show Steps p.tables e below (T18.setTop (mkF m 48 #[.val (.ref a1), .val (.ref a2), .val (.int 0), .val (.int 1), .val .null, .val (.ref b7)] [(.int (own_cofa (1 : Int32) (1 : Int32))), (.ref a1)])) _
    exact kt
  have pre20 : own_Go p e below S0 (T18.setTop (mkF m 48 #[.val (.ref a1), .val (.ref a2), .val (.int 0), .val (.int 1), .val .null, .val (.ref b7)] [(.int 0), (.ref a1)])) := by
    intro t kt
    refine pre19 t ?_
    rw [(by decide : (own_cofa (1 : Int32) (1 : Int32)) = (0 : Int32))]
    exact kt
  have f21 : Fld Z T6.heap a1 "java/lang/String" "coder" "B" (.int 0) := (pF2.keep K6 nin0)
  have f22 : Exa Z T6.heap a1 "java/lang/String" := (pE1.keep K6)
  obtain ⟨T23, h23, X23, e23, W23, st23⟩ := putFN X18 hx hZ hown (hw _ (own_w 25 rfl)) Via.refl eq18 f21 f22 (Or.inr ⟨(hw _ (own_w 21 rfl)), rfl, hnm⟩) (hw _ (own_w 6 rfl)) (ty := .byte) (v' := (.int 0)) (by decide) rfl (by decide) (g := (mkF m 48 #[.val (.ref a1), .val (.ref a2), .val (.int 0), .val (.int 1), .val .null, .val (.ref b7)] [(.int 0), (.ref a1)])) rfl rfl (hb hby d3_48)
  have N23 := Fr.snoc X23 N18 pg1
  have zs24 : n0 ≤ h23.size := Nat.le_trans zs15 (Keep.of_wr W23).1
  have kc25 : Keep h0 h23 [a1] := kc16.wr W23 (Or.inl (List.mem_of_getElem? (i := 0) rfl))
  have fw23 : Fld Z h23 a1 "java/lang/String" "coder" "B" (.int 0) := f21.same W23
  have pre26 : own_Go p e below S0 (T23.setTop (mkF m 54 #[.val (.ref a1), .val (.ref a2), .val (.int 0), .val (.int 1), .val .null, .val (.ref b7)] [(.ref b7), (.ref a1)])) := by
    intro t kt
    refine pre20 t ?_
    refine st23 _ ?_
    refine XS.aloadN X23.here hx rfl (hb hby d3_51) rfl rfl ?_
    refine XS.aload X23.here hx rfl (hb hby d3_52) rfl rfl ?_
    exact kt
  have f27 : Fld Z h23 a1 "java/lang/String" "value" "[B" .null := ((pF1.keep K6 nin0).other W23 (Or.inr (slot_ne (Or.inr (hw _ (own_w 20 rfl))) (Or.inr (hw _ (own_w 21 rfl))) (by decide) (t := (.array .byte)) (t' := .byte) (by decide) (by decide))))
  have f28 : Exa Z h23 a1 "java/lang/String" := (f22.wr W23)
  obtain ⟨T29, h29, X29, e29, W29, st29⟩ := putF X23 hx hZ hown (host := "") (Or.inl (hw _ (own_w 24 rfl))) Via.refl e23 f27 f28 (Or.inr ⟨(hw _ (own_w 20 rfl)), rfl, hnm⟩) (hw _ (own_w 6 rfl)) (ty := (.array .byte)) (by decide) rfl rfl (g := (mkF m 54 #[.val (.ref a1), .val (.ref a2), .val (.int 0), .val (.int 1), .val .null, .val (.ref b7)] [(.ref b7), (.ref a1)])) rfl rfl (hb hby d3_54)
  have N29 := Fr.snoc X29 N23 pg1
  have zs30 : n0 ≤ h29.size := Nat.le_trans zs24 (Keep.of_wr W29).1
  have kc31 : Keep h0 h29 [a1] := kc25.wr W29 (Or.inl (List.mem_of_getElem? (i := 0) rfl))
  have fw29 : Fld Z h29 a1 "java/lang/String" "value" "[B" (.ref b7) := f27.same W29
  have pre32 : own_Go p e below S0 (T29.setTop (mkF m 57 #[.val (.ref a1), .val (.ref a2), .val (.int 0), .val (.int 1), .val .null, .val (.ref b7)] [])) := by
    intro t kt
    refine pre26 t ?_
    refine st29 _ ?_
    exact kt
  have f33 : Exa Z h29 a1 "java/lang/String" := (f28.wr W29)
  have f34 : Fld Z h29 a1 "java/lang/String" "coder" "B" (.int 0) := (fw23.other W29 (Or.inr (slot_ne (Or.inr (hw _ (own_w 21 rfl))) (Or.inr (hw _ (own_w 20 rfl))) (by decide) (t := .byte) (t' := (.array .byte)) (by decide) (by decide))))
  have f35 : Arv Z h29 b7 kb8 .byte (1 : Int32) [(.int (nar .byte (c0.toInt8.toInt32)))] (.int 0) := ((g10.other W23 (Ne.symm ne11)).other W29 (Ne.symm ne11))
  obtain ⟨fs, hr, hrun, hended, hW, hsame⟩ := X29.leave (v := none) (fun _ => rfl)
  refine ⟨_, _, fin _ (pre32 _ ?_), hrun, hended, _, _, rfl, ?_, ⟨_, rfl⟩, hW, hsame.mono (by decide) (by decide)⟩
  · exact X29.returnOut hx Bd.returns (hb hby d3_57) hr
  · show Qini4L1 Z a1 a2 kc c0 wC h0 n0 _ T29.heap _
    rw [e29]
    exact ⟨b7, kb8, rfl, N29, kc31, sz14, ⟨f33, fw29, f34, f35⟩⟩

theorem ef_ini1L1 (m : MethodId) (x0 : Addr) (x1 : Addr) : entryFrame m #[(.ref x0), (.ref x1)] 2 = mkF m 0 #[.val (.ref x0), .val (.ref x1)] [] := by first | (simp [entryFrame, mkF, argsToLocals, Value.category]; done) | rfl
def Qini1L1 (Z : State) (a1 : Addr) (a2 : Addr) (kc : ClassId) (c0 : Int32) (wC : Int32) (h0 : Heap) (n0 : Nat) (v : Option Value) (h : Heap) (L : List Loc) : Prop := ∃ vb : Addr, ∃ kb : ClassId, v = none ∧ Fr n0 L ∧ Keep h0 h [a1] ∧ h0.size ≤ vb ∧ own_StrL Z h a1 vb kb [c0]
set_option maxRecDepth 65536 in
set_option maxHeartbeats 40000000 in
theorem rmini1L1 (l : Launch) (Z : State) (a0 : Array Value) (hw : ∀ d ∈ tables_1, d.before a0 Z = true) (ws : List Jvm.Cond) (a1 : Addr) (a2 : Addr) (kc : ClassId) (c0 : Int32) (wC : Int32) (h0 : Heap) (n0 : Nat) (Z0 : n0 ≤ h0.size) (O0 : Old Z n0 h0) (qC : (own_SC Z wC)) (pE1 : Exa Z h0 a1 "java/lang/String") (pF1 : Fld Z h0 a1 "java/lang/String" "value" "[B" .null) (pF2 : Fld Z h0 a1 "java/lang/String" "coder" "B" (.int 0)) (pg1 : n0 ≤ a1) (VC : Arv Z h0 a2 kc .char (1 : Int32) [(.int c0)] (.int 0)) (lt_0 : (¬ (255 : Int32) < c0)) :
    MetFree l own_m7 (head1 (Jvm.Cond.code own_m7 jdk_42_method_3_code 2 none :: ws) (own_r 3 1 1 52)) (fun a U => a = #[(.ref a1), (.ref a2)] ∧ Z.Warmed39 U.vm ∧ U.heap = h0) (fun _ _ _ _ _ => True) (fun _ U o U' => ∃ v L, o = .returned v ∧ Qini1L1 Z a1 a2 kc c0 wC h0 n0 v U'.heap L ∧ FrameEnd U o U' L (own_r 3 1 1 52).cells (own_r 3 1 1 52).slots) := by
  refine MetFree.of_bodySF (plainFor_of_name pn_2) hisR ?_
  intro p e s m args below meth c s₁ Bd hml0 hP hK
  obtain ⟨rfl, hZ, hh⟩ := hP
  have hx := Bd.exec
  have hby := Bd.bytes
  have hml : c.maxLocals = 2 := hml0
  have hown0 := findClass_of_methodNamed Bd.named
  have hown : s.vm.findClass "java/lang/String" = some m.cls := hown0
  have hnm := (name_of_methodNamed Bd.named Bd.method).1
  have X0 : Stand p l e (own_r 3 1 1 52) s m #[(.ref a1), (.ref a2)] below meth c s₁ [] 0 0 := Stand.of_body Bd
  have e0 : s₁.heap = h0 := by rw [← hh, Bd.state]; rfl
  have N0 := Fr.nil n0
  obtain ⟨S0, hS0⟩ : ∃ z, z = s₁.setTop (entryFrame m #[(.ref a1), (.ref a2)] 2) := ⟨_, rfl⟩
  have pre0 : own_Go p e below S0 (s₁.setTop (mkF m 0 #[.val (.ref a1), .val (.ref a2)] [])) := fun t k => by rw [hS0]; exact castTop (ef_ini1L1 m a1 a2) k
  have fin : ∀ t, Steps p.tables e below S0 t → Steps p.tables e below (s₁.setTop (entryFrame m #[(.ref a1), (.ref a2)] 2)) t := fun t k => by rw [hS0] at k; exact k
  have kc0 : Keep h0 h0 [a1] := Keep.refl _ _
  have pre1 : own_Go p e below S0 (s₁.setTop (mkF m 4 #[.val (.ref a1), .val (.ref a2)] [(.ref a2), (.int 0), (.ref a2), (.ref a1)])) := by
    intro t kt
    refine pre0 t ?_
    refine XS.aloadN X0.here hx rfl (hb hby d2_0) rfl rfl ?_
    refine XS.aloadN X0.here hx rfl (hb hby d2_1) rfl rfl ?_
    refine XS.iconst X0.here hx rfl (hb hby d2_2) ?_
    refine XS.aloadN X0.here hx rfl (hb hby d2_3) rfl rfl ?_
    show Steps p.tables e below (s₁.setTop (mkF m 4 #[.val (.ref a1), .val (.ref a2)] [(.ref a2), (.int 0), (.ref a2), (.ref a1)])) _
    exact kt
  obtain ⟨cl2, Ar2, -, Sz2, Ng2, -, -⟩ := id VC
  have pre3 : own_Go p e below S0 (s₁.setTop (mkF m 6 #[.val (.ref a1), .val (.ref a2)] [.null, (.int 1), (.int 0), (.ref a2), (.ref a1)])) := by
    intro t kt
    refine pre1 t ?_
    refine X0.arraylength hx (by rw [e0]; exact Ar2.1) (State.isArrayOf_alike hZ.alike Ar2.2.1) (g := (mkF m 4 #[.val (.ref a1), .val (.ref a2)] [(.ref a2), (.int 0), (.ref a2), (.ref a1)])) rfl rfl (hb hby d2_4) _ ?_
    rw [len_of Sz2 Ng2]
    show Steps p.tables e below (s₁.setTop (mkF m 5 #[.val (.ref a1), .val (.ref a2)] [(.int 1), (.int 0), (.ref a2), (.ref a1)])) _
    refine XS.aconstNull X0.here hx rfl (hb hby d2_5) ?_
    exact kt
  obtain ⟨_, _, ⟨T4, L4, k4, n4⟩, -, X4, ⟨Lc4, hQ4, l4, y4, z4⟩, st4⟩ := X0.specialBack hx (y := own_m8) rfl hown (mvT hZ (hw _ (own_w 11 rfl))) (mvT hZ (hw _ (own_w 12 rfl))) (mvT hZ (hw _ (own_w 14 rfl))) (by decide) (backOf (W := 0) (rmini4L1 l Z a0 hw [] a1 a2 kc c0 wC h0 n0 Z0 O0 qC pE1 pF1 pF2 pg1 VC lt_0) hZ (hw _ (own_w 14 rfl)) (hw _ (own_w 7 rfl)) (by decide) (by decide)) (g := (mkF m 6 #[.val (.ref a1), .val (.ref a2)] [.null, (.int 1), (.int 0), (.ref a2), (.ref a1)])) rfl (by rw [hml]; rfl) (Steps.refl _) (a := a1) (argsL := [(.ref a2), (.int 0), (.int 1), .null]) (rest := []) (lenOf pd_0 rfl) rfl (by show 2 * 0 + _ ≤ _; exact Nat.le_of_eq rfl) (hb hby d2_6) (fun _ _ => ⟨rfl, e0, (by decide : 0 + 1 ≤ _), (by decide : 0 + 1 ≤ _)⟩)
  dsimp only [Pt.U, Pt.locs, Pt.cells, Pt.slots] at X4 l4 y4 z4 st4 hQ4
  subst l4 y4 z4
  obtain ⟨vb5, kb6, rfl, Nq4, K4, g7, g8⟩ := hQ4
  have N4 := Fr.app N0 Nq4
  have ne9 : a1 ≠ vb5 := Nat.ne_of_lt (Nat.lt_of_lt_of_le pE1.lt g7)
  have ne10 : a2 ≠ vb5 := Nat.ne_of_lt (Nat.lt_of_lt_of_le VC.lt g7)
  have ge11 : n0 ≤ vb5 := Nat.le_trans Z0 g7
  have sz12 : h0.size ≤ vb5 := Nat.le_trans kc0.1 g7
  have zs13 : n0 ≤ T4.heap.size := Nat.le_trans Z0 K4.1
  have kc14 : Keep h0 T4.heap [a1] := kc0.trans K4 (allS (Or.inl (List.mem_of_getElem? (i := 0) rfl)) all0)
  have pre15 : own_Go p e below S0 (T4.setTop (mkF m 9 #[.val (.ref a1), .val (.ref a2)] [])) := by
    intro t kt
    refine pre3 t ?_
    refine st4.trans ?_
    show Steps p.tables e below (T4.setTop (mkF m 9 #[.val (.ref a1), .val (.ref a2)] [])) _
    exact kt
  obtain ⟨fs, hr, hrun, hended, hW, hsame⟩ := X4.leave (v := none) (fun _ => rfl)
  refine ⟨_, _, fin _ (pre15 _ ?_), hrun, hended, _, _, rfl, ?_, ⟨_, rfl⟩, hW, hsame.mono (by decide) (by decide)⟩
  · exact X4.returnOut hx Bd.returns (hb hby d2_9) hr
  · show Qini1L1 Z a1 a2 kc c0 wC h0 n0 _ T4.heap _
    exact ⟨vb5, kb6, rfl, N4, kc14, sz12, g8⟩

theorem ef_cmp5L2 (m : MethodId) (x0 : Addr) (x2 : Addr) : entryFrame m #[(.ref x0), (.int 0), (.ref x2), (.int 0), (.int 2)] 7 = mkF m 0 #[.val (.ref x0), .val (.int 0), .val (.ref x2), .val (.int 0), .val (.int 2), .unset, .unset] [] := by first | (simp [entryFrame, mkF, argsToLocals, Value.category]; done) | rfl
def Qcmp5L2 (Z : State) (a1 : Addr) (a2 : Addr) (kc : ClassId) (kb : ClassId) (c0 : Int32) (c1 : Int32) (h0 : Heap) (n0 : Nat) (v : Option Value) (h : Heap) (L : List Loc) : Prop := v = (some (.int 2)) ∧ Fr n0 L ∧ Keep h0 h [a2] ∧ Arv Z h a2 kb .byte (2 : Int32) [(.int (nar .byte (c0.toInt8.toInt32))), (.int (nar .byte (c1.toInt8.toInt32)))] (.int 0)
set_option maxRecDepth 65536 in
set_option maxHeartbeats 40000000 in
theorem rmcmp5L2 (l : Launch) (Z : State) (a0 : Array Value) (hw : ∀ d ∈ tables_1, d.before a0 Z = true) (ws : List Jvm.Cond) (a1 : Addr) (a2 : Addr) (kc : ClassId) (kb : ClassId) (c0 : Int32) (c1 : Int32) (h0 : Heap) (n0 : Nat) (Z0 : n0 ≤ h0.size) (VC : Arv Z h0 a1 kc .char (2 : Int32) [(.int c0), (.int c1)] (.int 0)) (g2 : n0 ≤ a2) (VB : Arv Z h0 a2 kb .byte (2 : Int32) [(.int 0), (.int 0)] (.int 0)) (n12 : a1 ≠ a2) (lt_0 : (¬ (255 : Int32) < c0)) (lt_1 : (¬ (255 : Int32) < c1)) :
    MetFree l own_m13 (head1 (Jvm.Cond.code own_m13 jdk_52_method_21_code 7 (some .int) :: ws) (own_r 0 0 0 0)) (fun a U => a = #[(.ref a1), (.int 0), (.ref a2), (.int 0), (.int 2)] ∧ Z.Warmed39 U.vm ∧ U.heap = h0) (fun _ _ _ _ _ => True) (fun _ U o U' => ∃ v L, o = .returned v ∧ Qcmp5L2 Z a1 a2 kc kb c0 c1 h0 n0 v U'.heap L ∧ FrameEnd U o U' L (own_r 0 0 0 0).cells (own_r 0 0 0 0).slots) := by
  refine MetFree.of_bodySF (plainFor_of_name pn_12) hisR ?_
  intro p e s m args below meth c s₁ Bd hml0 hP hK
  obtain ⟨rfl, hZ, hh⟩ := hP
  have hx := Bd.exec
  have hby := Bd.bytes
  have hml : c.maxLocals = 7 := hml0
  have hown0 := findClass_of_methodNamed Bd.named
  have hown : s.vm.findClass "java/lang/StringUTF16" = some m.cls := hown0
  have hnm := (name_of_methodNamed Bd.named Bd.method).1
  have X0 : Stand p l e (own_r 0 0 0 0) s m #[(.ref a1), (.int 0), (.ref a2), (.int 0), (.int 2)] below meth c s₁ [] 0 0 := Stand.of_body Bd
  have e0 : s₁.heap = h0 := by rw [← hh, Bd.state]; rfl
  have N0 := Fr.nil n0
  obtain ⟨S0, hS0⟩ : ∃ z, z = s₁.setTop (entryFrame m #[(.ref a1), (.int 0), (.ref a2), (.int 0), (.int 2)] 7) := ⟨_, rfl⟩
  have pre0 : own_Go p e below S0 (s₁.setTop (mkF m 0 #[.val (.ref a1), .val (.int 0), .val (.ref a2), .val (.int 0), .val (.int 2), .unset, .unset] [])) := fun t k => by rw [hS0]; exact castTop (ef_cmp5L2 m a1 a2) k
  have fin : ∀ t, Steps p.tables e below S0 t → Steps p.tables e below (s₁.setTop (entryFrame m #[(.ref a1), (.int 0), (.ref a2), (.int 0), (.int 2)] 7)) t := fun t k => by rw [hS0] at k; exact k
  have kc0 : Keep h0 h0 [a2] := Keep.refl _ _
  have pre1 : own_Go p e below S0 (s₁.setTop (mkF m 12 #[.val (.ref a1), .val (.int 0), .val (.ref a2), .val (.int 0), .val (.int 2), .val (.int 0), .unset] [(.int 0), (.ref a1)])) := by
    intro t kt
    refine pre0 t ?_
    refine XS.iconst X0.here hx rfl (hb hby d12_0) ?_
    refine XS.istore X0.here hx rfl (hb hby d12_1) rfl (l' := #[.val (.ref a1), .val (.int 0), .val (.ref a2), .val (.int 0), .val (.int 2), .val (.int 0), .unset]) rfl ?_
    refine XS.iload X0.here hx rfl (hb hby d12_3) rfl ?_
    refine XS.iload X0.here hx rfl (hb hby d12_5) rfl ?_
    show Steps p.tables e below (s₁.setTop (mkF m 7 #[.val (.ref a1), .val (.int 0), .val (.ref a2), .val (.int 0), .val (.int 2), .val (.int 0), .unset] [(.int 2), (.int 0)])) _
    refine XS.icmpNo X0.here hx rfl (hb hby d12_7) rfl (tlt (by decide : (0 : Int32) < (2 : Int32))).2.1 ?_
    refine XS.aloadN X0.here hx rfl (hb hby d12_10) rfl rfl ?_
    refine XS.iloadN X0.here hx rfl (hb hby d12_11) rfl ?_
    exact kt
  obtain ⟨cl2, Ar2, -, Sz2, -, Hs2, -⟩ := id VC
  have hin2 : ¬ ((0 : Int32) < 0 ∨ cl2.slots.size ≤ ((0 : Int32)).toNatClampNeg) := inb_of Sz2 ⟨by decide, by decide⟩
  have pre3 : own_Go p e below S0 (s₁.setTop (mkF m 31 #[.val (.ref a1), .val (.int 0), .val (.ref a2), .val (.int 0), .val (.int 2), .val (.int 0), .val (.int c0)] [(.int (c0.toInt8.toInt32)), (.int 0), (.ref a2)])) := by
    intro t kt
    refine pre1 t ?_
    refine X0.caload hx (j := (0 : Int32)) (v := (.int c0)) (by rw [e0]; exact Ar2.1) (State.isArrayOf_alike hZ.alike Ar2.2.1) Ar2.2.2 hin2 (Hs2.at hin2 rfl) (g := (mkF m 12 #[.val (.ref a1), .val (.int 0), .val (.ref a2), .val (.int 0), .val (.int 2), .val (.int 0), .unset] [(.int 0), (.ref a1)])) rfl rfl (hb hby d12_12) _ ?_
    refine XS.istore X0.here hx rfl (hb hby d12_13) rfl (l' := #[.val (.ref a1), .val (.int 0), .val (.ref a2), .val (.int 0), .val (.int 2), .val (.int 0), .val (.int c0)]) rfl ?_
    refine XS.iload X0.here hx rfl (hb hby d12_15) rfl ?_
    refine XS.sipush X0.here hx rfl (hb hby d12_17) ?_
    show Steps p.tables e below (s₁.setTop (mkF m 20 #[.val (.ref a1), .val (.int 0), .val (.ref a2), .val (.int 0), .val (.int 2), .val (.int 0), .val (.int c0)] [(.int 255), (.int c0)])) _
    refine XS.icmpYes X0.here hx rfl (pc0 := 20) (pc' := 26) rfl (hb hby d12_20) rfl (flt lt_0).2.2.2 (by decide) (by decide) ?_
    refine XS.aloadN X0.here hx rfl (hb hby d12_26) rfl rfl ?_
    refine XS.iloadN X0.here hx rfl (hb hby d12_27) rfl ?_
    refine XS.iload X0.here hx rfl (hb hby d12_28) rfl ?_
    show Steps p.tables e below (s₁.setTop (mkF m 30 #[.val (.ref a1), .val (.int 0), .val (.ref a2), .val (.int 0), .val (.int 2), .val (.int 0), .val (.int c0)] [(.int c0), (.int 0), (.ref a2)])) _
    refine XS.i2b X0.here hx rfl (hb hby d12_30) rfl ?_
    exact kt
  obtain ⟨cl4, Ar4, q4, Sz4, Ng4, Hs4, Gt4⟩ := id VB
  have hin4 : ¬ ((0 : Int32) < 0 ∨ cl4.slots.size ≤ ((0 : Int32)).toNatClampNeg) := inb_of Sz4 ⟨by decide, by decide⟩
  obtain ⟨T4, h4, X4, e4, W4, st4⟩ := stB X0 hx hZ e0 Ar4 (j := (0 : Int32)) hin4 (g := (mkF m 31 #[.val (.ref a1), .val (.int 0), .val (.ref a2), .val (.int 0), .val (.int 2), .val (.int 0), .val (.int c0)] [(.int (c0.toInt8.toInt32)), (.int 0), (.ref a2)])) rfl rfl (hb hby d12_31)
  have N4 := Fr.snoc X4 N0 g2
  have zs5 : n0 ≤ h4.size := Nat.le_trans Z0 (Keep.of_wr W4).1
  have kc6 : Keep h0 h4 [a2] := kc0.wr W4 (Or.inl (List.mem_of_getElem? (i := 0) rfl))
  have V4 : Arv Z h4 a2 kb .byte (2 : Int32) [(.int (nar .byte (c0.toInt8.toInt32))), (.int 0)] (.int 0) := Arv.set Ar4 q4 Sz4 Ng4 Hs4 Gt4 (fits_nar_byte _) W4 0 rfl (Nat.le_of_ble_eq_true rfl)
  have pre7 : own_Go p e below S0 (T4.setTop (mkF m 12 #[.val (.ref a1), .val (.int 1), .val (.ref a2), .val (.int 1), .val (.int 2), .val (.int 1), .val (.int c0)] [(.int 1), (.ref a1)])) := by
    intro t kt
    refine pre3 t ?_
    refine st4 _ ?_
    refine XS.iinc X4.here hx rfl (hb hby d12_32) rfl (l' := #[.val (.ref a1), .val (.int 1), .val (.ref a2), .val (.int 0), .val (.int 2), .val (.int 0), .val (.int c0)]) rfl ?_
    refine XS.iinc X4.here hx rfl (hb hby d12_35) rfl (l' := #[.val (.ref a1), .val (.int 1), .val (.ref a2), .val (.int 1), .val (.int 2), .val (.int 0), .val (.int c0)]) rfl ?_
    refine XS.iinc X4.here hx rfl (hb hby d12_38) rfl (l' := #[.val (.ref a1), .val (.int 1), .val (.ref a2), .val (.int 1), .val (.int 2), .val (.int 1), .val (.int c0)]) rfl ?_
    show Steps p.tables e below (T4.setTop (mkF m 41 #[.val (.ref a1), .val (.int 1), .val (.ref a2), .val (.int 1), .val (.int 2), .val (.int 1), .val (.int c0)] [])) _
    refine XS.goto X4.here hx rfl (pc0 := 41) (pc' := 3) rfl (hb hby d12_41) (by decide) (by decide) ?_
    refine XS.iload X4.here hx rfl (hb hby d12_3) rfl ?_
    refine XS.iload X4.here hx rfl (hb hby d12_5) rfl ?_
    refine XS.icmpNo X4.here hx rfl (hb hby d12_7) rfl (tlt (by decide : (1 : Int32) < (2 : Int32))).2.1 ?_
    show Steps p.tables e below (T4.setTop (mkF m 10 #[.val (.ref a1), .val (.int 1), .val (.ref a2), .val (.int 1), .val (.int 2), .val (.int 1), .val (.int c0)] [])) _
    refine XS.aloadN X4.here hx rfl (hb hby d12_10) rfl rfl ?_
    refine XS.iloadN X4.here hx rfl (hb hby d12_11) rfl ?_
    exact kt
  have f8 : Arv Z h4 a1 kc .char (2 : Int32) [(.int c0), (.int c1)] (.int 0) := (VC.other W4 n12)
  obtain ⟨cl9, Ar9, -, Sz9, -, Hs9, -⟩ := id f8
  have hin9 : ¬ ((1 : Int32) < 0 ∨ cl9.slots.size ≤ ((1 : Int32)).toNatClampNeg) := inb_of Sz9 ⟨by decide, by decide⟩
  have pre10 : own_Go p e below S0 (T4.setTop (mkF m 31 #[.val (.ref a1), .val (.int 1), .val (.ref a2), .val (.int 1), .val (.int 2), .val (.int 1), .val (.int c1)] [(.int (c1.toInt8.toInt32)), (.int 1), (.ref a2)])) := by
    intro t kt
    refine pre7 t ?_
    refine X4.caload hx (j := (1 : Int32)) (v := (.int c1)) (by rw [e4]; exact Ar9.1) (State.isArrayOf_alike hZ.alike Ar9.2.1) Ar9.2.2 hin9 (Hs9.at hin9 rfl) (g := (mkF m 12 #[.val (.ref a1), .val (.int 1), .val (.ref a2), .val (.int 1), .val (.int 2), .val (.int 1), .val (.int c0)] [(.int 1), (.ref a1)])) rfl rfl (hb hby d12_12) _ ?_
    refine XS.istore X4.here hx rfl (hb hby d12_13) rfl (l' := #[.val (.ref a1), .val (.int 1), .val (.ref a2), .val (.int 1), .val (.int 2), .val (.int 1), .val (.int c1)]) rfl ?_
    refine XS.iload X4.here hx rfl (hb hby d12_15) rfl ?_
    refine XS.sipush X4.here hx rfl (hb hby d12_17) ?_
    show Steps p.tables e below (T4.setTop (mkF m 20 #[.val (.ref a1), .val (.int 1), .val (.ref a2), .val (.int 1), .val (.int 2), .val (.int 1), .val (.int c1)] [(.int 255), (.int c1)])) _
    refine XS.icmpYes X4.here hx rfl (pc0 := 20) (pc' := 26) rfl (hb hby d12_20) rfl (flt lt_1).2.2.2 (by decide) (by decide) ?_
    refine XS.aloadN X4.here hx rfl (hb hby d12_26) rfl rfl ?_
    refine XS.iloadN X4.here hx rfl (hb hby d12_27) rfl ?_
    refine XS.iload X4.here hx rfl (hb hby d12_28) rfl ?_
    show Steps p.tables e below (T4.setTop (mkF m 30 #[.val (.ref a1), .val (.int 1), .val (.ref a2), .val (.int 1), .val (.int 2), .val (.int 1), .val (.int c1)] [(.int c1), (.int 1), (.ref a2)])) _
    refine XS.i2b X4.here hx rfl (hb hby d12_30) rfl ?_
    exact kt
  obtain ⟨cl11, Ar11, q11, Sz11, Ng11, Hs11, Gt11⟩ := id V4
  have hin11 : ¬ ((1 : Int32) < 0 ∨ cl11.slots.size ≤ ((1 : Int32)).toNatClampNeg) := inb_of Sz11 ⟨by decide, by decide⟩
  obtain ⟨T11, h11, X11, e11, W11, st11⟩ := stB X4 hx hZ e4 Ar11 (j := (1 : Int32)) hin11 (g := (mkF m 31 #[.val (.ref a1), .val (.int 1), .val (.ref a2), .val (.int 1), .val (.int 2), .val (.int 1), .val (.int c1)] [(.int (c1.toInt8.toInt32)), (.int 1), (.ref a2)])) rfl rfl (hb hby d12_31)
  have N11 := Fr.snoc X11 N4 g2
  have zs12 : n0 ≤ h11.size := Nat.le_trans zs5 (Keep.of_wr W11).1
  have kc13 : Keep h0 h11 [a2] := kc6.wr W11 (Or.inl (List.mem_of_getElem? (i := 0) rfl))
  have V11 : Arv Z h11 a2 kb .byte (2 : Int32) [(.int (nar .byte (c0.toInt8.toInt32))), (.int (nar .byte (c1.toInt8.toInt32)))] (.int 0) := Arv.set Ar11 q11 Sz11 Ng11 Hs11 Gt11 (fits_nar_byte _) W11 1 rfl (Nat.le_of_ble_eq_true rfl)
  have pre14 : own_Go p e below S0 (T11.setTop (mkF m 46 #[.val (.ref a1), .val (.int 2), .val (.ref a2), .val (.int 2), .val (.int 2), .val (.int 2), .val (.int c1)] [(.int 2)])) := by
    intro t kt
    refine pre10 t ?_
    refine st11 _ ?_
    refine XS.iinc X11.here hx rfl (hb hby d12_32) rfl (l' := #[.val (.ref a1), .val (.int 2), .val (.ref a2), .val (.int 1), .val (.int 2), .val (.int 1), .val (.int c1)]) rfl ?_
    refine XS.iinc X11.here hx rfl (hb hby d12_35) rfl (l' := #[.val (.ref a1), .val (.int 2), .val (.ref a2), .val (.int 2), .val (.int 2), .val (.int 1), .val (.int c1)]) rfl ?_
    refine XS.iinc X11.here hx rfl (hb hby d12_38) rfl (l' := #[.val (.ref a1), .val (.int 2), .val (.ref a2), .val (.int 2), .val (.int 2), .val (.int 2), .val (.int c1)]) rfl ?_
    show Steps p.tables e below (T11.setTop (mkF m 41 #[.val (.ref a1), .val (.int 2), .val (.ref a2), .val (.int 2), .val (.int 2), .val (.int 2), .val (.int c1)] [])) _
    refine XS.goto X11.here hx rfl (pc0 := 41) (pc' := 3) rfl (hb hby d12_41) (by decide) (by decide) ?_
    refine XS.iload X11.here hx rfl (hb hby d12_3) rfl ?_
    refine XS.iload X11.here hx rfl (hb hby d12_5) rfl ?_
    refine XS.icmpYes X11.here hx rfl (pc0 := 7) (pc' := 44) rfl (hb hby d12_7) rfl (flt (by decide : ¬ ((2 : Int32) < (2 : Int32)))).2.1 (by decide) (by decide) ?_
    show Steps p.tables e below (T11.setTop (mkF m 44 #[.val (.ref a1), .val (.int 2), .val (.ref a2), .val (.int 2), .val (.int 2), .val (.int 2), .val (.int c1)] [])) _
    refine XS.iload X11.here hx rfl (hb hby d12_44) rfl ?_
    exact kt
  obtain ⟨fs, hr, hrun, hended, hW, hsame⟩ := X11.leave (v := some (.int 2)) (fun h => by rw [Bd.returns] at h; cases h)
  refine ⟨_, _, fin _ (pre14 _ ?_), hrun, hended, _, _, rfl, ?_, ⟨_, rfl⟩, hW, hsame.mono (by decide) (by decide)⟩
  · exact retI X11 hx Bd.returns (hb hby d12_46) hr
  · show Qcmp5L2 Z a1 a2 kc kb c0 c1 h0 n0 _ T11.heap _
    rw [e11]
    exact ⟨rfl, N11, kc13, V11⟩

theorem ef_cmp3L2 (m : MethodId) (x0 : Addr) : entryFrame m #[(.ref x0), (.int 0), (.int 2)] 6 = mkF m 0 #[.val (.ref x0), .val (.int 0), .val (.int 2), .unset, .unset, .unset] [] := by first | (simp [entryFrame, mkF, argsToLocals, Value.category]; done) | rfl
def Qcmp3L2 (Z : State) (a1 : Addr) (kc : ClassId) (c0 : Int32) (c1 : Int32) (h0 : Heap) (n0 : Nat) (v : Option Value) (h : Heap) (L : List Loc) : Prop := ∃ b : Addr, ∃ kb : ClassId, v = (some (.ref b)) ∧ Fr n0 L ∧ Keep h0 h [] ∧ h0.size ≤ b ∧ Arv Z h b kb .byte (2 : Int32) [(.int (nar .byte (c0.toInt8.toInt32))), (.int (nar .byte (c1.toInt8.toInt32)))] (.int 0)
set_option maxRecDepth 65536 in
set_option maxHeartbeats 40000000 in
theorem rmcmp3L2 (l : Launch) (Z : State) (a0 : Array Value) (hw : ∀ d ∈ tables_1, d.before a0 Z = true) (ws : List Jvm.Cond) (a1 : Addr) (kc : ClassId) (c0 : Int32) (c1 : Int32) (h0 : Heap) (n0 : Nat) (Z0 : n0 ≤ h0.size) (VC : Arv Z h0 a1 kc .char (2 : Int32) [(.int c0), (.int c1)] (.int 0)) (lt_0 : (¬ (255 : Int32) < c0)) (lt_1 : (¬ (255 : Int32) < c1)) :
    MetFree l own_m12 (head1 (Jvm.Cond.code own_m12 jdk_52_method_16_code 6 (some (.array .byte)) :: ws) (own_r 1 1 2 18)) (fun a U => a = #[(.ref a1), (.int 0), (.int 2)] ∧ Z.Warmed39 U.vm ∧ U.heap = h0) (fun _ _ _ _ _ => True) (fun _ U o U' => ∃ v L, o = .returned v ∧ Qcmp3L2 Z a1 kc c0 c1 h0 n0 v U'.heap L ∧ FrameEnd U o U' L (own_r 1 1 2 18).cells (own_r 1 1 2 18).slots) := by
  refine MetFree.of_bodySF (plainFor_of_name pn_11) hisR ?_
  intro p e s m args below meth c s₁ Bd hml0 hP hK
  obtain ⟨rfl, hZ, hh⟩ := hP
  have hx := Bd.exec
  have hby := Bd.bytes
  have hml : c.maxLocals = 6 := hml0
  have hown0 := findClass_of_methodNamed Bd.named
  have hown : s.vm.findClass "java/lang/StringUTF16" = some m.cls := hown0
  have hnm := (name_of_methodNamed Bd.named Bd.method).1
  have X0 : Stand p l e (own_r 1 1 2 18) s m #[(.ref a1), (.int 0), (.int 2)] below meth c s₁ [] 0 0 := Stand.of_body Bd
  have e0 : s₁.heap = h0 := by rw [← hh, Bd.state]; rfl
  have N0 := Fr.nil n0
  obtain ⟨S0, hS0⟩ : ∃ z, z = s₁.setTop (entryFrame m #[(.ref a1), (.int 0), (.int 2)] 6) := ⟨_, rfl⟩
  have pre0 : own_Go p e below S0 (s₁.setTop (mkF m 0 #[.val (.ref a1), .val (.int 0), .val (.int 2), .unset, .unset, .unset] [])) := fun t k => by rw [hS0]; exact castTop (ef_cmp3L2 m a1) k
  have fin : ∀ t, Steps p.tables e below S0 t → Steps p.tables e below (s₁.setTop (entryFrame m #[(.ref a1), (.int 0), (.int 2)] 6)) t := fun t k => by rw [hS0] at k; exact k
  have kc0 : Keep h0 h0 [] := Keep.refl _ _
  have pre1 : own_Go p e below S0 (s₁.setTop (mkF m 1 #[.val (.ref a1), .val (.int 0), .val (.int 2), .unset, .unset, .unset] [(.int 2)])) := by
    intro t kt
    refine pre0 t ?_
    refine XS.iloadN X0.here hx rfl (hb hby d11_0) rfl ?_
    exact kt
  obtain ⟨T2, h2, k2, X2, e2, E2, A2, st2⟩ := newP X0 hx hZ (hw _ (own_w 19 rfl)) e0 (g := (mkF m 1 #[.val (.ref a1), .val (.int 0), .val (.int 2), .unset, .unset, .unset] [(.int 2)])) rfl (hb hby d11_1) rfl (by decide) (cap := 2) (by decide) (by decide) (by decide) (by decide)
  obtain ⟨b2, g2⟩ : ∃ z, z = h0.size := ⟨_, rfl⟩
  rw [← g2] at A2 st2
  have ne3 : a1 ≠ b2 := Nat.ne_of_lt (Nat.lt_of_lt_of_le VC.lt (Nat.le_of_eq g2.symm))
  have ge4 : n0 ≤ b2 := Nat.le_trans Z0 (Nat.le_of_eq g2.symm)
  have sz5 : h0.size ≤ b2 := Nat.le_trans kc0.1 (Nat.le_of_eq g2.symm)
  have zs6 : n0 ≤ h2.size := Nat.le_trans Z0 E2.1
  have kc7 : Keep h0 h2 [] := kc0.ext E2
  have V2 : Arv Z h2 b2 k2 .byte (2 : Int32) [(.int 0), (.int 0)] (.int 0) := (Arv.new A2 (by decide)).pad (pad_rep [] (.int 0) 2)
  have pre8 : own_Go p e below S0 (T2.setTop (mkF m 9 #[.val (.ref a1), .val (.int 0), .val (.int 2), .val (.ref b2), .unset, .unset] [(.int 2), (.int 0), (.ref b2), (.int 0), (.ref a1)])) := by
    intro t kt
    refine pre1 t ?_
    refine st2 _ ?_
    refine XS.astoreN X2.here hx rfl (hb hby d11_3) rfl rfl (l' := #[.val (.ref a1), .val (.int 0), .val (.int 2), .val (.ref b2), .unset, .unset]) rfl ?_
    refine XS.aloadN X2.here hx rfl (hb hby d11_4) rfl rfl ?_
    refine XS.iloadN X2.here hx rfl (hb hby d11_5) rfl ?_
    show Steps p.tables e below (T2.setTop (mkF m 6 #[.val (.ref a1), .val (.int 0), .val (.int 2), .val (.ref b2), .unset, .unset] [(.int 0), (.ref a1)])) _
    refine XS.aloadN X2.here hx rfl (hb hby d11_6) rfl rfl ?_
    refine XS.iconst X2.here hx rfl (hb hby d11_7) ?_
    refine XS.iloadN X2.here hx rfl (hb hby d11_8) rfl ?_
    exact kt
  have f9 : Arv Z h2 a1 kc .char (2 : Int32) [(.int c0), (.int c1)] (.int 0) := (VC.ext E2)
  obtain ⟨_, _, ⟨T10, L10, k10, n10⟩, -, X10, ⟨Lc10, hQ10, l10, y10, z10⟩, st10⟩ := Jvm.LawKit.callS X2 hx (y := own_m13) hown (mvT hZ (hw _ (own_w 77 rfl))) (mvT hZ (hw _ (own_w 78 rfl))) (mvT hZ (hw _ (own_w 75 rfl))) (mvT hZ (hw _ (own_w 79 rfl))) (by decide) (backOf (W := 0) (rmcmp5L2 l Z a0 hw [] a1 b2 kc k2 c0 c1 h2 n0 zs6 f9 ge4 V2 ne3 lt_0 lt_1) hZ (hw _ (own_w 79 rfl)) (hw _ (own_w 75 rfl)) (by decide) (by decide)) (g := (mkF m 9 #[.val (.ref a1), .val (.int 0), .val (.int 2), .val (.ref b2), .unset, .unset] [(.int 2), (.int 0), (.ref b2), (.int 0), (.ref a1)])) rfl (by rw [hml]; rfl) (argsL := [(.ref a1), (.int 0), (.ref b2), (.int 0), (.int 2)]) (rest := []) (lenOf pd_1 rfl) rfl (by show 2 * 0 + _ ≤ _; exact Nat.le_of_eq rfl) (hb hby d11_9) (fun _ _ => ⟨rfl, e2, (by decide : 1 + 0 ≤ _), (by decide : 2 + 0 ≤ _)⟩)
  dsimp only [Pt.U, Pt.locs, Pt.cells, Pt.slots] at X10 l10 y10 z10 st10 hQ10
  subst l10 y10 z10
  obtain ⟨rfl, Nq10, K10, g11⟩ := hQ10
  have N10 := Fr.app N0 Nq10
  have zs12 : n0 ≤ T10.heap.size := Nat.le_trans zs6 K10.1
  have kc13 : Keep h0 T10.heap [] := kc7.trans K10 (allS (Or.inr sz5) all0)
  have pre14 : own_Go p e below S0 (T10.setTop (mkF m 58 #[.val (.ref a1), .val (.int 0), .val (.int 2), .val (.ref b2), .val (.int 2), .unset] [(.ref b2)])) := by
    intro t kt
    refine pre8 t ?_
    refine st10 _ ?_
    show Steps p.tables e below (T10.setTop (mkF m 12 #[.val (.ref a1), .val (.int 0), .val (.int 2), .val (.ref b2), .unset, .unset] [(.int 2)])) _
    refine XS.istore X10.here hx rfl (hb hby d11_12) rfl (l' := #[.val (.ref a1), .val (.int 0), .val (.int 2), .val (.ref b2), .val (.int 2), .unset]) rfl ?_
    refine XS.iload X10.here hx rfl (hb hby d11_14) rfl ?_
    refine XS.iloadN X10.here hx rfl (hb hby d11_16) rfl ?_
    show Steps p.tables e below (T10.setTop (mkF m 17 #[.val (.ref a1), .val (.int 0), .val (.int 2), .val (.ref b2), .val (.int 2), .unset] [(.int 2), (.int 2)])) _
    refine XS.icmpYes X10.here hx rfl (pc0 := 17) (pc' := 57) rfl (hb hby d11_17) rfl (teq (by decide : (2 : Int32) = (2 : Int32))).1 (by decide) (by decide) ?_
    refine XS.aloadN X10.here hx rfl (hb hby d11_57) rfl rfl ?_
    exact kt
  obtain ⟨fs, hr, hrun, hended, hW, hsame⟩ := X10.leave (v := some (.ref b2)) (fun h => by rw [Bd.returns] at h; cases h)
  refine ⟨_, _, fin _ (pre14 _ ?_), hrun, hended, _, _, rfl, ?_, ⟨_, rfl⟩, hW, hsame.mono (by decide) (by decide)⟩
  · jvm_step X10.here [X10.here.top, hx, (hb hby d11_58), X10.method', Bd.returns, Value.isRef, FieldType.isReference]
    first | (intro acts; rw [hr _ acts rfl rfl rfl]) | rw [hr _ _ rfl rfl rfl]
    exact Steps.refl _
  · show Qcmp3L2 Z a1 kc c0 c1 h0 n0 _ T10.heap _
    exact ⟨b2, k2, rfl, N10, kc13, sz5, g11⟩

theorem ef_ini4L2 (m : MethodId) (x0 : Addr) (x1 : Addr) : entryFrame m #[(.ref x0), (.ref x1), (.int 0), (.int 2), .null] 6 = mkF m 0 #[.val (.ref x0), .val (.ref x1), .val (.int 0), .val (.int 2), .val .null, .unset] [] := by first | (simp [entryFrame, mkF, argsToLocals, Value.category]; done) | rfl
def Qini4L2 (Z : State) (a1 : Addr) (a2 : Addr) (kc : ClassId) (c0 : Int32) (c1 : Int32) (wC : Int32) (h0 : Heap) (n0 : Nat) (v : Option Value) (h : Heap) (L : List Loc) : Prop := ∃ vb : Addr, ∃ kb : ClassId, v = none ∧ Fr n0 L ∧ Keep h0 h [a1] ∧ h0.size ≤ vb ∧ own_StrL Z h a1 vb kb [c0, c1]
set_option maxRecDepth 65536 in
set_option maxHeartbeats 40000000 in
theorem rmini4L2 (l : Launch) (Z : State) (a0 : Array Value) (hw : ∀ d ∈ tables_1, d.before a0 Z = true) (ws : List Jvm.Cond) (a1 : Addr) (a2 : Addr) (kc : ClassId) (c0 : Int32) (c1 : Int32) (wC : Int32) (h0 : Heap) (n0 : Nat) (Z0 : n0 ≤ h0.size) (O0 : Old Z n0 h0) (qC : (own_SC Z wC)) (pE1 : Exa Z h0 a1 "java/lang/String") (pF1 : Fld Z h0 a1 "java/lang/String" "value" "[B" .null) (pF2 : Fld Z h0 a1 "java/lang/String" "coder" "B" (.int 0)) (pg1 : n0 ≤ a1) (VC : Arv Z h0 a2 kc .char (2 : Int32) [(.int c0), (.int c1)] (.int 0)) (lt_0 : (¬ (255 : Int32) < c0)) (lt_1 : (¬ (255 : Int32) < c1)) :
    MetFree l own_m8 (head1 (Jvm.Cond.code own_m8 jdk_42_method_149_code 6 none :: ws) (own_r 2 1 2 35)) (fun a U => a = #[(.ref a1), (.ref a2), (.int 0), (.int 2), .null] ∧ Z.Warmed39 U.vm ∧ U.heap = h0) (fun _ _ _ _ _ => True) (fun _ U o U' => ∃ v L, o = .returned v ∧ Qini4L2 Z a1 a2 kc c0 c1 wC h0 n0 v U'.heap L ∧ FrameEnd U o U' L (own_r 2 1 2 35).cells (own_r 2 1 2 35).slots) := by
  refine MetFree.of_bodySF (plainFor_of_name pn_3) hisR ?_
  intro p e s m args below meth c s₁ Bd hml0 hP hK
  obtain ⟨rfl, hZ, hh⟩ := hP
  have hx := Bd.exec
  have hby := Bd.bytes
  have hml : c.maxLocals = 6 := hml0
  have hown0 := findClass_of_methodNamed Bd.named
  have hown : s.vm.findClass "java/lang/String" = some m.cls := hown0
  have hnm := (name_of_methodNamed Bd.named Bd.method).1
  have X0 : Stand p l e (own_r 2 1 2 35) s m #[(.ref a1), (.ref a2), (.int 0), (.int 2), .null] below meth c s₁ [] 0 0 := Stand.of_body Bd
  have e0 : s₁.heap = h0 := by rw [← hh, Bd.state]; rfl
  have N0 := Fr.nil n0
  obtain ⟨S0, hS0⟩ : ∃ z, z = s₁.setTop (entryFrame m #[(.ref a1), (.ref a2), (.int 0), (.int 2), .null] 6) := ⟨_, rfl⟩
  have pre0 : own_Go p e below S0 (s₁.setTop (mkF m 0 #[.val (.ref a1), .val (.ref a2), .val (.int 0), .val (.int 2), .val .null, .unset] [])) := fun t k => by rw [hS0]; exact castTop (ef_ini4L2 m a1 a2) k
  have fin : ∀ t, Steps p.tables e below S0 t → Steps p.tables e below (s₁.setTop (entryFrame m #[(.ref a1), (.ref a2), (.int 0), (.int 2), .null] 6)) t := fun t k => by rw [hS0] at k; exact k
  have kc0 : Keep h0 h0 [a1] := Keep.refl _ _
  have pre1 : own_Go p e below S0 (s₁.setTop (mkF m 1 #[.val (.ref a1), .val (.ref a2), .val (.int 0), .val (.int 2), .val .null, .unset] [(.ref a1)])) := by
    intro t kt
    refine pre0 t ?_
    refine XS.aloadN X0.here hx rfl (hb hby d3_0) rfl rfl ?_
    exact kt
  obtain ⟨T2, X2, e2, st2⟩ := initO X0 hx hZ hown (hw _ (own_w 15 rfl)) (hw _ (own_w 16 rfl)) (hw _ (own_w 17 rfl)) e0 (g := (mkF m 1 #[.val (.ref a1), .val (.ref a2), .val (.int 0), .val (.int 2), .val .null, .unset] [(.ref a1)])) rfl (by rw [hml]; rfl) rfl (hb hby d3_1) (by decide) (W := 0) (by show 2 * 0 + _ ≤ _; exact Nat.le_of_eq rfl) (by decide)
  have pre3 : own_Go p e below S0 (T2.setTop (mkF m 27 #[.val (.ref a1), .val (.ref a2), .val (.int 0), .val (.int 2), .val .null, .unset] [])) := by
    intro t kt
    refine pre1 t ?_
    refine st2 _ ?_
    refine XS.iloadN X2.here hx rfl (hb hby d3_4) rfl ?_
    refine XS.ifYes X2.here hx rfl (pc0 := 5) (pc' := 27) rfl (hb hby d3_5) rfl ((if0 _ _).trans (feq (by decide : ¬ ((2 : Int32) = (0 : Int32)))).2) (by decide) (by decide) ?_
    exact kt
  obtain ⟨T4, X4, e4, st4⟩ := getS2 X2 hx hZ hown (host := "") (Or.inl (hw _ (own_w 72 rfl))) Via.refl e2 (qC.1.ext O0.2) (g := (mkF m 27 #[.val (.ref a1), .val (.ref a2), .val (.int 0), .val (.int 2), .val .null, .unset] [])) rfl (hb hby d3_27)
  have pre5 : own_Go p e below S0 (T4.setTop (mkF m 36 #[.val (.ref a1), .val (.ref a2), .val (.int 0), .val (.int 2), .val .null, .unset] [(.int 2), (.int 0), (.ref a2)])) := by
    intro t kt
    refine pre3 t ?_
    refine st4 _ ?_
    refine XS.ifNo X4.here hx rfl (hb hby d3_30) rfl ((if0 _ _).trans (feq qC.2).1) ?_
    refine XS.aloadN X4.here hx rfl (hb hby d3_33) rfl rfl ?_
    refine XS.iloadN X4.here hx rfl (hb hby d3_34) rfl ?_
    show Steps p.tables e below (T4.setTop (mkF m 35 #[.val (.ref a1), .val (.ref a2), .val (.int 0), .val (.int 2), .val .null, .unset] [(.int 0), (.ref a2)])) _
    refine XS.iloadN X4.here hx rfl (hb hby d3_35) rfl ?_
    exact kt
  obtain ⟨_, _, ⟨T6, L6, k6, n6⟩, -, X6, ⟨Lc6, hQ6, l6, y6, z6⟩, st6⟩ := Jvm.LawKit.callS X4 hx (y := own_m12) hown (mvT hZ (hw _ (own_w 73 rfl))) (mvT hZ (hw _ (own_w 74 rfl))) (mvT hZ (hw _ (own_w 75 rfl))) (mvT hZ (hw _ (own_w 76 rfl))) (by decide) (backOf (W := 0) (rmcmp3L2 l Z a0 hw [] a2 kc c0 c1 h0 n0 Z0 VC lt_0 lt_1) hZ (hw _ (own_w 76 rfl)) (hw _ (own_w 75 rfl)) (by decide) (by decide)) (g := (mkF m 36 #[.val (.ref a1), .val (.ref a2), .val (.int 0), .val (.int 2), .val .null, .unset] [(.int 2), (.int 0), (.ref a2)])) rfl (by rw [hml]; rfl) (argsL := [(.ref a2), (.int 0), (.int 2)]) (rest := []) (lenOf pd_2 rfl) rfl (by show 2 * 0 + _ ≤ _; exact Nat.le_of_eq rfl) (hb hby d3_36) (fun _ _ => ⟨rfl, e4, (by decide : 0 + 1 ≤ _), (by decide : 0 + 2 ≤ _)⟩)
  dsimp only [Pt.U, Pt.locs, Pt.cells, Pt.slots] at X6 l6 y6 z6 st6 hQ6
  subst l6 y6 z6
  obtain ⟨b7, kb8, rfl, Nq6, K6, g9, g10⟩ := hQ6
  have N6 := Fr.app N0 Nq6
  have ne11 : a1 ≠ b7 := Nat.ne_of_lt (Nat.lt_of_lt_of_le pE1.lt g9)
  have ne12 : a2 ≠ b7 := Nat.ne_of_lt (Nat.lt_of_lt_of_le VC.lt g9)
  have ge13 : n0 ≤ b7 := Nat.le_trans Z0 g9
  have sz14 : h0.size ≤ b7 := Nat.le_trans kc0.1 g9
  have zs15 : n0 ≤ T6.heap.size := Nat.le_trans Z0 K6.1
  have kc16 : Keep h0 T6.heap [a1] := kc0.trans K6 all0
  have pre17 : own_Go p e below S0 (T6.setTop (mkF m 45 #[.val (.ref a1), .val (.ref a2), .val (.int 0), .val (.int 2), .val .null, .val (.ref b7)] [(.int 2), (.ref b7), (.ref a1)])) := by
    intro t kt
    refine pre5 t ?_
    refine st6 _ ?_
    show Steps p.tables e below (T6.setTop (mkF m 39 #[.val (.ref a1), .val (.ref a2), .val (.int 0), .val (.int 2), .val .null, .unset] [(.ref b7)])) _
    refine XS.astore X6.here hx rfl (hb hby d3_39) rfl rfl (l' := #[.val (.ref a1), .val (.ref a2), .val (.int 0), .val (.int 2), .val .null, .val (.ref b7)]) rfl ?_
    refine XS.aloadN X6.here hx rfl (hb hby d3_41) rfl rfl ?_
    refine XS.aload X6.here hx rfl (hb hby d3_42) rfl rfl ?_
    show Steps p.tables e below (T6.setTop (mkF m 44 #[.val (.ref a1), .val (.ref a2), .val (.int 0), .val (.int 2), .val .null, .val (.ref b7)] [(.ref b7), (.ref a1)])) _
    refine XS.iloadN X6.here hx rfl (hb hby d3_44) rfl ?_
    exact kt
  obtain ⟨_, _, ⟨T18, L18, k18, n18⟩, -, X18, ⟨Lc18, hQ18, l18, y18, z18⟩, st18⟩ := Jvm.LawKit.callS X6 hx (y := own_m11) hown (mvT hZ (hw _ (own_w 80 rfl))) (mvT hZ (hw _ (own_w 81 rfl))) (mvT hZ (hw _ (own_w 75 rfl))) (mvT hZ (hw _ (own_w 82 rfl))) (by decide) (backOf (W := 1) (rmcofa l Z a0 hw [] b7 (2 : Int32) kb8 (2 : Int32) [(.int (nar .byte (c0.toInt8.toInt32))), (.int (nar .byte (c1.toInt8.toInt32)))] (.int 0) T6.heap n0 zs15 g10) hZ (hw _ (own_w 82 rfl)) (hw _ (own_w 75 rfl)) (by decide) (by decide)) (g := (mkF m 45 #[.val (.ref a1), .val (.ref a2), .val (.int 0), .val (.int 2), .val .null, .val (.ref b7)] [(.int 2), (.ref b7), (.ref a1)])) rfl (by rw [hml]; rfl) (argsL := [(.ref b7), (.int 2)]) (rest := [(.ref a1)]) (lenOf pd_3 rfl) rfl (by show 2 * 0 + _ ≤ _; exact Nat.le_of_eq rfl) (hb hby d3_45) (fun _ _ => ⟨rfl, rfl, (by decide : 1 + 0 ≤ _), (by decide : 2 + 0 ≤ _)⟩)
  dsimp only [Pt.U, Pt.locs, Pt.cells, Pt.slots] at X18 l18 y18 z18 st18 hQ18
  subst l18 y18 z18
  obtain ⟨rfl, Nq18, eq18⟩ := hQ18
  have N18 := Fr.app N6 Nq18
  have pre19 : own_Go p e below S0 (T18.setTop (mkF m 48 #[.val (.ref a1), .val (.ref a2), .val (.int 0), .val (.int 2), .val .null, .val (.ref b7)] [(.int (own_cofa (2 : Int32) (2 : Int32))), (.ref a1)])) := by
    intro t kt
    refine pre17 t ?_
    refine st18 _ ?_
    show Steps p.tables e below (T18.setTop (mkF m 48 #[.val (.ref a1), .val (.ref a2), .val (.int 0), .val (.int 2), .val .null, .val (.ref b7)] [(.int (own_cofa (2 : Int32) (2 : Int32))), (.ref a1)])) _
    exact kt
  have pre20 : own_Go p e below S0 (T18.setTop (mkF m 48 #[.val (.ref a1), .val (.ref a2), .val (.int 0), .val (.int 2), .val .null, .val (.ref b7)] [(.int 0), (.ref a1)])) := by
    intro t kt
    refine pre19 t ?_
    rw [(by decide : (own_cofa (2 : Int32) (2 : Int32)) = (0 : Int32))]
    exact kt
  have f21 : Fld Z T6.heap a1 "java/lang/String" "coder" "B" (.int 0) := (pF2.keep K6 nin0)
  have f22 : Exa Z T6.heap a1 "java/lang/String" := (pE1.keep K6)
  obtain ⟨T23, h23, X23, e23, W23, st23⟩ := putFN X18 hx hZ hown (hw _ (own_w 25 rfl)) Via.refl eq18 f21 f22 (Or.inr ⟨(hw _ (own_w 21 rfl)), rfl, hnm⟩) (hw _ (own_w 6 rfl)) (ty := .byte) (v' := (.int 0)) (by decide) rfl (by decide) (g := (mkF m 48 #[.val (.ref a1), .val (.ref a2), .val (.int 0), .val (.int 2), .val .null, .val (.ref b7)] [(.int 0), (.ref a1)])) rfl rfl (hb hby d3_48)
  have N23 := Fr.snoc X23 N18 pg1
  have zs24 : n0 ≤ h23.size := Nat.le_trans zs15 (Keep.of_wr W23).1
  have kc25 : Keep h0 h23 [a1] := kc16.wr W23 (Or.inl (List.mem_of_getElem? (i := 0) rfl))
  have fw23 : Fld Z h23 a1 "java/lang/String" "coder" "B" (.int 0) := f21.same W23
  have pre26 : own_Go p e below S0 (T23.setTop (mkF m 54 #[.val (.ref a1), .val (.ref a2), .val (.int 0), .val (.int 2), .val .null, .val (.ref b7)] [(.ref b7), (.ref a1)])) := by
    intro t kt
    refine pre20 t ?_
    refine st23 _ ?_
    refine XS.aloadN X23.here hx rfl (hb hby d3_51) rfl rfl ?_
    refine XS.aload X23.here hx rfl (hb hby d3_52) rfl rfl ?_
    exact kt
  have f27 : Fld Z h23 a1 "java/lang/String" "value" "[B" .null := ((pF1.keep K6 nin0).other W23 (Or.inr (slot_ne (Or.inr (hw _ (own_w 20 rfl))) (Or.inr (hw _ (own_w 21 rfl))) (by decide) (t := (.array .byte)) (t' := .byte) (by decide) (by decide))))
  have f28 : Exa Z h23 a1 "java/lang/String" := (f22.wr W23)
  obtain ⟨T29, h29, X29, e29, W29, st29⟩ := putF X23 hx hZ hown (host := "") (Or.inl (hw _ (own_w 24 rfl))) Via.refl e23 f27 f28 (Or.inr ⟨(hw _ (own_w 20 rfl)), rfl, hnm⟩) (hw _ (own_w 6 rfl)) (ty := (.array .byte)) (by decide) rfl rfl (g := (mkF m 54 #[.val (.ref a1), .val (.ref a2), .val (.int 0), .val (.int 2), .val .null, .val (.ref b7)] [(.ref b7), (.ref a1)])) rfl rfl (hb hby d3_54)
  have N29 := Fr.snoc X29 N23 pg1
  have zs30 : n0 ≤ h29.size := Nat.le_trans zs24 (Keep.of_wr W29).1
  have kc31 : Keep h0 h29 [a1] := kc25.wr W29 (Or.inl (List.mem_of_getElem? (i := 0) rfl))
  have fw29 : Fld Z h29 a1 "java/lang/String" "value" "[B" (.ref b7) := f27.same W29
  have pre32 : own_Go p e below S0 (T29.setTop (mkF m 57 #[.val (.ref a1), .val (.ref a2), .val (.int 0), .val (.int 2), .val .null, .val (.ref b7)] [])) := by
    intro t kt
    refine pre26 t ?_
    refine st29 _ ?_
    exact kt
  have f33 : Exa Z h29 a1 "java/lang/String" := (f28.wr W29)
  have f34 : Fld Z h29 a1 "java/lang/String" "coder" "B" (.int 0) := (fw23.other W29 (Or.inr (slot_ne (Or.inr (hw _ (own_w 21 rfl))) (Or.inr (hw _ (own_w 20 rfl))) (by decide) (t := .byte) (t' := (.array .byte)) (by decide) (by decide))))
  have f35 : Arv Z h29 b7 kb8 .byte (2 : Int32) [(.int (nar .byte (c0.toInt8.toInt32))), (.int (nar .byte (c1.toInt8.toInt32)))] (.int 0) := ((g10.other W23 (Ne.symm ne11)).other W29 (Ne.symm ne11))
  obtain ⟨fs, hr, hrun, hended, hW, hsame⟩ := X29.leave (v := none) (fun _ => rfl)
  refine ⟨_, _, fin _ (pre32 _ ?_), hrun, hended, _, _, rfl, ?_, ⟨_, rfl⟩, hW, hsame.mono (by decide) (by decide)⟩
  · exact X29.returnOut hx Bd.returns (hb hby d3_57) hr
  · show Qini4L2 Z a1 a2 kc c0 c1 wC h0 n0 _ T29.heap _
    rw [e29]
    exact ⟨b7, kb8, rfl, N29, kc31, sz14, ⟨f33, fw29, f34, f35⟩⟩

theorem ef_ini1L2 (m : MethodId) (x0 : Addr) (x1 : Addr) : entryFrame m #[(.ref x0), (.ref x1)] 2 = mkF m 0 #[.val (.ref x0), .val (.ref x1)] [] := by first | (simp [entryFrame, mkF, argsToLocals, Value.category]; done) | rfl
def Qini1L2 (Z : State) (a1 : Addr) (a2 : Addr) (kc : ClassId) (c0 : Int32) (c1 : Int32) (wC : Int32) (h0 : Heap) (n0 : Nat) (v : Option Value) (h : Heap) (L : List Loc) : Prop := ∃ vb : Addr, ∃ kb : ClassId, v = none ∧ Fr n0 L ∧ Keep h0 h [a1] ∧ h0.size ≤ vb ∧ own_StrL Z h a1 vb kb [c0, c1]
set_option maxRecDepth 65536 in
set_option maxHeartbeats 40000000 in
theorem rmini1L2 (l : Launch) (Z : State) (a0 : Array Value) (hw : ∀ d ∈ tables_1, d.before a0 Z = true) (ws : List Jvm.Cond) (a1 : Addr) (a2 : Addr) (kc : ClassId) (c0 : Int32) (c1 : Int32) (wC : Int32) (h0 : Heap) (n0 : Nat) (Z0 : n0 ≤ h0.size) (O0 : Old Z n0 h0) (qC : (own_SC Z wC)) (pE1 : Exa Z h0 a1 "java/lang/String") (pF1 : Fld Z h0 a1 "java/lang/String" "value" "[B" .null) (pF2 : Fld Z h0 a1 "java/lang/String" "coder" "B" (.int 0)) (pg1 : n0 ≤ a1) (VC : Arv Z h0 a2 kc .char (2 : Int32) [(.int c0), (.int c1)] (.int 0)) (lt_0 : (¬ (255 : Int32) < c0)) (lt_1 : (¬ (255 : Int32) < c1)) :
    MetFree l own_m7 (head1 (Jvm.Cond.code own_m7 jdk_42_method_3_code 2 none :: ws) (own_r 3 1 2 52)) (fun a U => a = #[(.ref a1), (.ref a2)] ∧ Z.Warmed39 U.vm ∧ U.heap = h0) (fun _ _ _ _ _ => True) (fun _ U o U' => ∃ v L, o = .returned v ∧ Qini1L2 Z a1 a2 kc c0 c1 wC h0 n0 v U'.heap L ∧ FrameEnd U o U' L (own_r 3 1 2 52).cells (own_r 3 1 2 52).slots) := by
  refine MetFree.of_bodySF (plainFor_of_name pn_2) hisR ?_
  intro p e s m args below meth c s₁ Bd hml0 hP hK
  obtain ⟨rfl, hZ, hh⟩ := hP
  have hx := Bd.exec
  have hby := Bd.bytes
  have hml : c.maxLocals = 2 := hml0
  have hown0 := findClass_of_methodNamed Bd.named
  have hown : s.vm.findClass "java/lang/String" = some m.cls := hown0
  have hnm := (name_of_methodNamed Bd.named Bd.method).1
  have X0 : Stand p l e (own_r 3 1 2 52) s m #[(.ref a1), (.ref a2)] below meth c s₁ [] 0 0 := Stand.of_body Bd
  have e0 : s₁.heap = h0 := by rw [← hh, Bd.state]; rfl
  have N0 := Fr.nil n0
  obtain ⟨S0, hS0⟩ : ∃ z, z = s₁.setTop (entryFrame m #[(.ref a1), (.ref a2)] 2) := ⟨_, rfl⟩
  have pre0 : own_Go p e below S0 (s₁.setTop (mkF m 0 #[.val (.ref a1), .val (.ref a2)] [])) := fun t k => by rw [hS0]; exact castTop (ef_ini1L2 m a1 a2) k
  have fin : ∀ t, Steps p.tables e below S0 t → Steps p.tables e below (s₁.setTop (entryFrame m #[(.ref a1), (.ref a2)] 2)) t := fun t k => by rw [hS0] at k; exact k
  have kc0 : Keep h0 h0 [a1] := Keep.refl _ _
  have pre1 : own_Go p e below S0 (s₁.setTop (mkF m 4 #[.val (.ref a1), .val (.ref a2)] [(.ref a2), (.int 0), (.ref a2), (.ref a1)])) := by
    intro t kt
    refine pre0 t ?_
    refine XS.aloadN X0.here hx rfl (hb hby d2_0) rfl rfl ?_
    refine XS.aloadN X0.here hx rfl (hb hby d2_1) rfl rfl ?_
    refine XS.iconst X0.here hx rfl (hb hby d2_2) ?_
    refine XS.aloadN X0.here hx rfl (hb hby d2_3) rfl rfl ?_
    show Steps p.tables e below (s₁.setTop (mkF m 4 #[.val (.ref a1), .val (.ref a2)] [(.ref a2), (.int 0), (.ref a2), (.ref a1)])) _
    exact kt
  obtain ⟨cl2, Ar2, -, Sz2, Ng2, -, -⟩ := id VC
  have pre3 : own_Go p e below S0 (s₁.setTop (mkF m 6 #[.val (.ref a1), .val (.ref a2)] [.null, (.int 2), (.int 0), (.ref a2), (.ref a1)])) := by
    intro t kt
    refine pre1 t ?_
    refine X0.arraylength hx (by rw [e0]; exact Ar2.1) (State.isArrayOf_alike hZ.alike Ar2.2.1) (g := (mkF m 4 #[.val (.ref a1), .val (.ref a2)] [(.ref a2), (.int 0), (.ref a2), (.ref a1)])) rfl rfl (hb hby d2_4) _ ?_
    rw [len_of Sz2 Ng2]
    show Steps p.tables e below (s₁.setTop (mkF m 5 #[.val (.ref a1), .val (.ref a2)] [(.int 2), (.int 0), (.ref a2), (.ref a1)])) _
    refine XS.aconstNull X0.here hx rfl (hb hby d2_5) ?_
    exact kt
  obtain ⟨_, _, ⟨T4, L4, k4, n4⟩, -, X4, ⟨Lc4, hQ4, l4, y4, z4⟩, st4⟩ := X0.specialBack hx (y := own_m8) rfl hown (mvT hZ (hw _ (own_w 11 rfl))) (mvT hZ (hw _ (own_w 12 rfl))) (mvT hZ (hw _ (own_w 14 rfl))) (by decide) (backOf (W := 0) (rmini4L2 l Z a0 hw [] a1 a2 kc c0 c1 wC h0 n0 Z0 O0 qC pE1 pF1 pF2 pg1 VC lt_0 lt_1) hZ (hw _ (own_w 14 rfl)) (hw _ (own_w 7 rfl)) (by decide) (by decide)) (g := (mkF m 6 #[.val (.ref a1), .val (.ref a2)] [.null, (.int 2), (.int 0), (.ref a2), (.ref a1)])) rfl (by rw [hml]; rfl) (Steps.refl _) (a := a1) (argsL := [(.ref a2), (.int 0), (.int 2), .null]) (rest := []) (lenOf pd_0 rfl) rfl (by show 2 * 0 + _ ≤ _; exact Nat.le_of_eq rfl) (hb hby d2_6) (fun _ _ => ⟨rfl, e0, (by decide : 0 + 1 ≤ _), (by decide : 0 + 2 ≤ _)⟩)
  dsimp only [Pt.U, Pt.locs, Pt.cells, Pt.slots] at X4 l4 y4 z4 st4 hQ4
  subst l4 y4 z4
  obtain ⟨vb5, kb6, rfl, Nq4, K4, g7, g8⟩ := hQ4
  have N4 := Fr.app N0 Nq4
  have ne9 : a1 ≠ vb5 := Nat.ne_of_lt (Nat.lt_of_lt_of_le pE1.lt g7)
  have ne10 : a2 ≠ vb5 := Nat.ne_of_lt (Nat.lt_of_lt_of_le VC.lt g7)
  have ge11 : n0 ≤ vb5 := Nat.le_trans Z0 g7
  have sz12 : h0.size ≤ vb5 := Nat.le_trans kc0.1 g7
  have zs13 : n0 ≤ T4.heap.size := Nat.le_trans Z0 K4.1
  have kc14 : Keep h0 T4.heap [a1] := kc0.trans K4 (allS (Or.inl (List.mem_of_getElem? (i := 0) rfl)) all0)
  have pre15 : own_Go p e below S0 (T4.setTop (mkF m 9 #[.val (.ref a1), .val (.ref a2)] [])) := by
    intro t kt
    refine pre3 t ?_
    refine st4.trans ?_
    show Steps p.tables e below (T4.setTop (mkF m 9 #[.val (.ref a1), .val (.ref a2)] [])) _
    exact kt
  obtain ⟨fs, hr, hrun, hended, hW, hsame⟩ := X4.leave (v := none) (fun _ => rfl)
  refine ⟨_, _, fin _ (pre15 _ ?_), hrun, hended, _, _, rfl, ?_, ⟨_, rfl⟩, hW, hsame.mono (by decide) (by decide)⟩
  · exact X4.returnOut hx Bd.returns (hb hby d2_9) hr
  · show Qini1L2 Z a1 a2 kc c0 c1 wC h0 n0 _ T4.heap _
    exact ⟨vb5, kb6, rfl, N4, kc14, sz12, g8⟩

theorem ef_cmp5L3 (m : MethodId) (x0 : Addr) (x2 : Addr) : entryFrame m #[(.ref x0), (.int 0), (.ref x2), (.int 0), (.int 3)] 7 = mkF m 0 #[.val (.ref x0), .val (.int 0), .val (.ref x2), .val (.int 0), .val (.int 3), .unset, .unset] [] := by first | (simp [entryFrame, mkF, argsToLocals, Value.category]; done) | rfl
def Qcmp5L3 (Z : State) (a1 : Addr) (a2 : Addr) (kc : ClassId) (kb : ClassId) (c0 : Int32) (c1 : Int32) (c2 : Int32) (h0 : Heap) (n0 : Nat) (v : Option Value) (h : Heap) (L : List Loc) : Prop := v = (some (.int 3)) ∧ Fr n0 L ∧ Keep h0 h [a2] ∧ Arv Z h a2 kb .byte (3 : Int32) [(.int (nar .byte (c0.toInt8.toInt32))), (.int (nar .byte (c1.toInt8.toInt32))), (.int (nar .byte (c2.toInt8.toInt32)))] (.int 0)
set_option maxRecDepth 65536 in
set_option maxHeartbeats 40000000 in
theorem rmcmp5L3 (l : Launch) (Z : State) (a0 : Array Value) (hw : ∀ d ∈ tables_1, d.before a0 Z = true) (ws : List Jvm.Cond) (a1 : Addr) (a2 : Addr) (kc : ClassId) (kb : ClassId) (c0 : Int32) (c1 : Int32) (c2 : Int32) (h0 : Heap) (n0 : Nat) (Z0 : n0 ≤ h0.size) (VC : Arv Z h0 a1 kc .char (3 : Int32) [(.int c0), (.int c1), (.int c2)] (.int 0)) (g2 : n0 ≤ a2) (VB : Arv Z h0 a2 kb .byte (3 : Int32) [(.int 0), (.int 0), (.int 0)] (.int 0)) (n12 : a1 ≠ a2) (lt_0 : (¬ (255 : Int32) < c0)) (lt_1 : (¬ (255 : Int32) < c1)) (lt_2 : (¬ (255 : Int32) < c2)) :
    MetFree l own_m13 (head1 (Jvm.Cond.code own_m13 jdk_52_method_21_code 7 (some .int) :: ws) (own_r 0 0 0 0)) (fun a U => a = #[(.ref a1), (.int 0), (.ref a2), (.int 0), (.int 3)] ∧ Z.Warmed39 U.vm ∧ U.heap = h0) (fun _ _ _ _ _ => True) (fun _ U o U' => ∃ v L, o = .returned v ∧ Qcmp5L3 Z a1 a2 kc kb c0 c1 c2 h0 n0 v U'.heap L ∧ FrameEnd U o U' L (own_r 0 0 0 0).cells (own_r 0 0 0 0).slots) := by
  refine MetFree.of_bodySF (plainFor_of_name pn_12) hisR ?_
  intro p e s m args below meth c s₁ Bd hml0 hP hK
  obtain ⟨rfl, hZ, hh⟩ := hP
  have hx := Bd.exec
  have hby := Bd.bytes
  have hml : c.maxLocals = 7 := hml0
  have hown0 := findClass_of_methodNamed Bd.named
  have hown : s.vm.findClass "java/lang/StringUTF16" = some m.cls := hown0
  have hnm := (name_of_methodNamed Bd.named Bd.method).1
  have X0 : Stand p l e (own_r 0 0 0 0) s m #[(.ref a1), (.int 0), (.ref a2), (.int 0), (.int 3)] below meth c s₁ [] 0 0 := Stand.of_body Bd
  have e0 : s₁.heap = h0 := by rw [← hh, Bd.state]; rfl
  have N0 := Fr.nil n0
  obtain ⟨S0, hS0⟩ : ∃ z, z = s₁.setTop (entryFrame m #[(.ref a1), (.int 0), (.ref a2), (.int 0), (.int 3)] 7) := ⟨_, rfl⟩
  have pre0 : own_Go p e below S0 (s₁.setTop (mkF m 0 #[.val (.ref a1), .val (.int 0), .val (.ref a2), .val (.int 0), .val (.int 3), .unset, .unset] [])) := fun t k => by rw [hS0]; exact castTop (ef_cmp5L3 m a1 a2) k
  have fin : ∀ t, Steps p.tables e below S0 t → Steps p.tables e below (s₁.setTop (entryFrame m #[(.ref a1), (.int 0), (.ref a2), (.int 0), (.int 3)] 7)) t := fun t k => by rw [hS0] at k; exact k
  have kc0 : Keep h0 h0 [a2] := Keep.refl _ _
  have pre1 : own_Go p e below S0 (s₁.setTop (mkF m 12 #[.val (.ref a1), .val (.int 0), .val (.ref a2), .val (.int 0), .val (.int 3), .val (.int 0), .unset] [(.int 0), (.ref a1)])) := by
    intro t kt
    refine pre0 t ?_
    refine XS.iconst X0.here hx rfl (hb hby d12_0) ?_
    refine XS.istore X0.here hx rfl (hb hby d12_1) rfl (l' := #[.val (.ref a1), .val (.int 0), .val (.ref a2), .val (.int 0), .val (.int 3), .val (.int 0), .unset]) rfl ?_
    refine XS.iload X0.here hx rfl (hb hby d12_3) rfl ?_
    refine XS.iload X0.here hx rfl (hb hby d12_5) rfl ?_
    show Steps p.tables e below (s₁.setTop (mkF m 7 #[.val (.ref a1), .val (.int 0), .val (.ref a2), .val (.int 0), .val (.int 3), .val (.int 0), .unset] [(.int 3), (.int 0)])) _
    refine XS.icmpNo X0.here hx rfl (hb hby d12_7) rfl (tlt (by decide : (0 : Int32) < (3 : Int32))).2.1 ?_
    refine XS.aloadN X0.here hx rfl (hb hby d12_10) rfl rfl ?_
    refine XS.iloadN X0.here hx rfl (hb hby d12_11) rfl ?_
    exact kt
  obtain ⟨cl2, Ar2, -, Sz2, -, Hs2, -⟩ := id VC
  have hin2 : ¬ ((0 : Int32) < 0 ∨ cl2.slots.size ≤ ((0 : Int32)).toNatClampNeg) := inb_of Sz2 ⟨by decide, by decide⟩
  have pre3 : own_Go p e below S0 (s₁.setTop (mkF m 31 #[.val (.ref a1), .val (.int 0), .val (.ref a2), .val (.int 0), .val (.int 3), .val (.int 0), .val (.int c0)] [(.int (c0.toInt8.toInt32)), (.int 0), (.ref a2)])) := by
    intro t kt
    refine pre1 t ?_
    refine X0.caload hx (j := (0 : Int32)) (v := (.int c0)) (by rw [e0]; exact Ar2.1) (State.isArrayOf_alike hZ.alike Ar2.2.1) Ar2.2.2 hin2 (Hs2.at hin2 rfl) (g := (mkF m 12 #[.val (.ref a1), .val (.int 0), .val (.ref a2), .val (.int 0), .val (.int 3), .val (.int 0), .unset] [(.int 0), (.ref a1)])) rfl rfl (hb hby d12_12) _ ?_
    refine XS.istore X0.here hx rfl (hb hby d12_13) rfl (l' := #[.val (.ref a1), .val (.int 0), .val (.ref a2), .val (.int 0), .val (.int 3), .val (.int 0), .val (.int c0)]) rfl ?_
    refine XS.iload X0.here hx rfl (hb hby d12_15) rfl ?_
    refine XS.sipush X0.here hx rfl (hb hby d12_17) ?_
    show Steps p.tables e below (s₁.setTop (mkF m 20 #[.val (.ref a1), .val (.int 0), .val (.ref a2), .val (.int 0), .val (.int 3), .val (.int 0), .val (.int c0)] [(.int 255), (.int c0)])) _
    refine XS.icmpYes X0.here hx rfl (pc0 := 20) (pc' := 26) rfl (hb hby d12_20) rfl (flt lt_0).2.2.2 (by decide) (by decide) ?_
    refine XS.aloadN X0.here hx rfl (hb hby d12_26) rfl rfl ?_
    refine XS.iloadN X0.here hx rfl (hb hby d12_27) rfl ?_
    refine XS.iload X0.here hx rfl (hb hby d12_28) rfl ?_
    show Steps p.tables e below (s₁.setTop (mkF m 30 #[.val (.ref a1), .val (.int 0), .val (.ref a2), .val (.int 0), .val (.int 3), .val (.int 0), .val (.int c0)] [(.int c0), (.int 0), (.ref a2)])) _
    refine XS.i2b X0.here hx rfl (hb hby d12_30) rfl ?_
    exact kt
  obtain ⟨cl4, Ar4, q4, Sz4, Ng4, Hs4, Gt4⟩ := id VB
  have hin4 : ¬ ((0 : Int32) < 0 ∨ cl4.slots.size ≤ ((0 : Int32)).toNatClampNeg) := inb_of Sz4 ⟨by decide, by decide⟩
  obtain ⟨T4, h4, X4, e4, W4, st4⟩ := stB X0 hx hZ e0 Ar4 (j := (0 : Int32)) hin4 (g := (mkF m 31 #[.val (.ref a1), .val (.int 0), .val (.ref a2), .val (.int 0), .val (.int 3), .val (.int 0), .val (.int c0)] [(.int (c0.toInt8.toInt32)), (.int 0), (.ref a2)])) rfl rfl (hb hby d12_31)
  have N4 := Fr.snoc X4 N0 g2
  have zs5 : n0 ≤ h4.size := Nat.le_trans Z0 (Keep.of_wr W4).1
  have kc6 : Keep h0 h4 [a2] := kc0.wr W4 (Or.inl (List.mem_of_getElem? (i := 0) rfl))
  have V4 : Arv Z h4 a2 kb .byte (3 : Int32) [(.int (nar .byte (c0.toInt8.toInt32))), (.int 0), (.int 0)] (.int 0) := Arv.set Ar4 q4 Sz4 Ng4 Hs4 Gt4 (fits_nar_byte _) W4 0 rfl (Nat.le_of_ble_eq_true rfl)
  have pre7 : own_Go p e below S0 (T4.setTop (mkF m 12 #[.val (.ref a1), .val (.int 1), .val (.ref a2), .val (.int 1), .val (.int 3), .val (.int 1), .val (.int c0)] [(.int 1), (.ref a1)])) := by
    intro t kt
    refine pre3 t ?_
    refine st4 _ ?_
    refine XS.iinc X4.here hx rfl (hb hby d12_32) rfl (l' := #[.val (.ref a1), .val (.int 1), .val (.ref a2), .val (.int 0), .val (.int 3), .val (.int 0), .val (.int c0)]) rfl ?_
    refine XS.iinc X4.here hx rfl (hb hby d12_35) rfl (l' := #[.val (.ref a1), .val (.int 1), .val (.ref a2), .val (.int 1), .val (.int 3), .val (.int 0), .val (.int c0)]) rfl ?_
    refine XS.iinc X4.here hx rfl (hb hby d12_38) rfl (l' := #[.val (.ref a1), .val (.int 1), .val (.ref a2), .val (.int 1), .val (.int 3), .val (.int 1), .val (.int c0)]) rfl ?_
    show Steps p.tables e below (T4.setTop (mkF m 41 #[.val (.ref a1), .val (.int 1), .val (.ref a2), .val (.int 1), .val (.int 3), .val (.int 1), .val (.int c0)] [])) _
    refine XS.goto X4.here hx rfl (pc0 := 41) (pc' := 3) rfl (hb hby d12_41) (by decide) (by decide) ?_
    refine XS.iload X4.here hx rfl (hb hby d12_3) rfl ?_
    refine XS.iload X4.here hx rfl (hb hby d12_5) rfl ?_
    refine XS.icmpNo X4.here hx rfl (hb hby d12_7) rfl (tlt (by decide : (1 : Int32) < (3 : Int32))).2.1 ?_
    show Steps p.tables e below (T4.setTop (mkF m 10 #[.val (.ref a1), .val (.int 1), .val (.ref a2), .val (.int 1), .val (.int 3), .val (.int 1), .val (.int c0)] [])) _
    refine XS.aloadN X4.here hx rfl (hb hby d12_10) rfl rfl ?_
    refine XS.iloadN X4.here hx rfl (hb hby d12_11) rfl ?_
    exact kt
  have f8 : Arv Z h4 a1 kc .char (3 : Int32) [(.int c0), (.int c1), (.int c2)] (.int 0) := (VC.other W4 n12)
  obtain ⟨cl9, Ar9, -, Sz9, -, Hs9, -⟩ := id f8
  have hin9 : ¬ ((1 : Int32) < 0 ∨ cl9.slots.size ≤ ((1 : Int32)).toNatClampNeg) := inb_of Sz9 ⟨by decide, by decide⟩
  have pre10 : own_Go p e below S0 (T4.setTop (mkF m 31 #[.val (.ref a1), .val (.int 1), .val (.ref a2), .val (.int 1), .val (.int 3), .val (.int 1), .val (.int c1)] [(.int (c1.toInt8.toInt32)), (.int 1), (.ref a2)])) := by
    intro t kt
    refine pre7 t ?_
    refine X4.caload hx (j := (1 : Int32)) (v := (.int c1)) (by rw [e4]; exact Ar9.1) (State.isArrayOf_alike hZ.alike Ar9.2.1) Ar9.2.2 hin9 (Hs9.at hin9 rfl) (g := (mkF m 12 #[.val (.ref a1), .val (.int 1), .val (.ref a2), .val (.int 1), .val (.int 3), .val (.int 1), .val (.int c0)] [(.int 1), (.ref a1)])) rfl rfl (hb hby d12_12) _ ?_
    refine XS.istore X4.here hx rfl (hb hby d12_13) rfl (l' := #[.val (.ref a1), .val (.int 1), .val (.ref a2), .val (.int 1), .val (.int 3), .val (.int 1), .val (.int c1)]) rfl ?_
    refine XS.iload X4.here hx rfl (hb hby d12_15) rfl ?_
    refine XS.sipush X4.here hx rfl (hb hby d12_17) ?_
    show Steps p.tables e below (T4.setTop (mkF m 20 #[.val (.ref a1), .val (.int 1), .val (.ref a2), .val (.int 1), .val (.int 3), .val (.int 1), .val (.int c1)] [(.int 255), (.int c1)])) _
    refine XS.icmpYes X4.here hx rfl (pc0 := 20) (pc' := 26) rfl (hb hby d12_20) rfl (flt lt_1).2.2.2 (by decide) (by decide) ?_
    refine XS.aloadN X4.here hx rfl (hb hby d12_26) rfl rfl ?_
    refine XS.iloadN X4.here hx rfl (hb hby d12_27) rfl ?_
    refine XS.iload X4.here hx rfl (hb hby d12_28) rfl ?_
    show Steps p.tables e below (T4.setTop (mkF m 30 #[.val (.ref a1), .val (.int 1), .val (.ref a2), .val (.int 1), .val (.int 3), .val (.int 1), .val (.int c1)] [(.int c1), (.int 1), (.ref a2)])) _
    refine XS.i2b X4.here hx rfl (hb hby d12_30) rfl ?_
    exact kt
  obtain ⟨cl11, Ar11, q11, Sz11, Ng11, Hs11, Gt11⟩ := id V4
  have hin11 : ¬ ((1 : Int32) < 0 ∨ cl11.slots.size ≤ ((1 : Int32)).toNatClampNeg) := inb_of Sz11 ⟨by decide, by decide⟩
  obtain ⟨T11, h11, X11, e11, W11, st11⟩ := stB X4 hx hZ e4 Ar11 (j := (1 : Int32)) hin11 (g := (mkF m 31 #[.val (.ref a1), .val (.int 1), .val (.ref a2), .val (.int 1), .val (.int 3), .val (.int 1), .val (.int c1)] [(.int (c1.toInt8.toInt32)), (.int 1), (.ref a2)])) rfl rfl (hb hby d12_31)
  have N11 := Fr.snoc X11 N4 g2
  have zs12 : n0 ≤ h11.size := Nat.le_trans zs5 (Keep.of_wr W11).1
  have kc13 : Keep h0 h11 [a2] := kc6.wr W11 (Or.inl (List.mem_of_getElem? (i := 0) rfl))
  have V11 : Arv Z h11 a2 kb .byte (3 : Int32) [(.int (nar .byte (c0.toInt8.toInt32))), (.int (nar .byte (c1.toInt8.toInt32))), (.int 0)] (.int 0) := Arv.set Ar11 q11 Sz11 Ng11 Hs11 Gt11 (fits_nar_byte _) W11 1 rfl (Nat.le_of_ble_eq_true rfl)
  have pre14 : own_Go p e below S0 (T11.setTop (mkF m 12 #[.val (.ref a1), .val (.int 2), .val (.ref a2), .val (.int 2), .val (.int 3), .val (.int 2), .val (.int c1)] [(.int 2), (.ref a1)])) := by
    intro t kt
    refine pre10 t ?_
    refine st11 _ ?_
    refine XS.iinc X11.here hx rfl (hb hby d12_32) rfl (l' := #[.val (.ref a1), .val (.int 2), .val (.ref a2), .val (.int 1), .val (.int 3), .val (.int 1), .val (.int c1)]) rfl ?_
    refine XS.iinc X11.here hx rfl (hb hby d12_35) rfl (l' := #[.val (.ref a1), .val (.int 2), .val (.ref a2), .val (.int 2), .val (.int 3), .val (.int 1), .val (.int c1)]) rfl ?_
    refine XS.iinc X11.here hx rfl (hb hby d12_38) rfl (l' := #[.val (.ref a1), .val (.int 2), .val (.ref a2), .val (.int 2), .val (.int 3), .val (.int 2), .val (.int c1)]) rfl ?_
    show Steps p.tables e below (T11.setTop (mkF m 41 #[.val (.ref a1), .val (.int 2), .val (.ref a2), .val (.int 2), .val (.int 3), .val (.int 2), .val (.int c1)] [])) _
    refine XS.goto X11.here hx rfl (pc0 := 41) (pc' := 3) rfl (hb hby d12_41) (by decide) (by decide) ?_
    refine XS.iload X11.here hx rfl (hb hby d12_3) rfl ?_
    refine XS.iload X11.here hx rfl (hb hby d12_5) rfl ?_
    refine XS.icmpNo X11.here hx rfl (hb hby d12_7) rfl (tlt (by decide : (2 : Int32) < (3 : Int32))).2.1 ?_
    show Steps p.tables e below (T11.setTop (mkF m 10 #[.val (.ref a1), .val (.int 2), .val (.ref a2), .val (.int 2), .val (.int 3), .val (.int 2), .val (.int c1)] [])) _
    refine XS.aloadN X11.here hx rfl (hb hby d12_10) rfl rfl ?_
    refine XS.iloadN X11.here hx rfl (hb hby d12_11) rfl ?_
    exact kt
  have f15 : Arv Z h11 a1 kc .char (3 : Int32) [(.int c0), (.int c1), (.int c2)] (.int 0) := (f8.other W11 n12)
  obtain ⟨cl16, Ar16, -, Sz16, -, Hs16, -⟩ := id f15
  have hin16 : ¬ ((2 : Int32) < 0 ∨ cl16.slots.size ≤ ((2 : Int32)).toNatClampNeg) := inb_of Sz16 ⟨by decide, by decide⟩
  have pre17 : own_Go p e below S0 (T11.setTop (mkF m 31 #[.val (.ref a1), .val (.int 2), .val (.ref a2), .val (.int 2), .val (.int 3), .val (.int 2), .val (.int c2)] [(.int (c2.toInt8.toInt32)), (.int 2), (.ref a2)])) := by
    intro t kt
    refine pre14 t ?_
    refine X11.caload hx (j := (2 : Int32)) (v := (.int c2)) (by rw [e11]; exact Ar16.1) (State.isArrayOf_alike hZ.alike Ar16.2.1) Ar16.2.2 hin16 (Hs16.at hin16 rfl) (g := (mkF m 12 #[.val (.ref a1), .val (.int 2), .val (.ref a2), .val (.int 2), .val (.int 3), .val (.int 2), .val (.int c1)] [(.int 2), (.ref a1)])) rfl rfl (hb hby d12_12) _ ?_
    refine XS.istore X11.here hx rfl (hb hby d12_13) rfl (l' := #[.val (.ref a1), .val (.int 2), .val (.ref a2), .val (.int 2), .val (.int 3), .val (.int 2), .val (.int c2)]) rfl ?_
    refine XS.iload X11.here hx rfl (hb hby d12_15) rfl ?_
    refine XS.sipush X11.here hx rfl (hb hby d12_17) ?_
    show Steps p.tables e below (T11.setTop (mkF m 20 #[.val (.ref a1), .val (.int 2), .val (.ref a2), .val (.int 2), .val (.int 3), .val (.int 2), .val (.int c2)] [(.int 255), (.int c2)])) _
    refine XS.icmpYes X11.here hx rfl (pc0 := 20) (pc' := 26) rfl (hb hby d12_20) rfl (flt lt_2).2.2.2 (by decide) (by decide) ?_
    refine XS.aloadN X11.here hx rfl (hb hby d12_26) rfl rfl ?_
    refine XS.iloadN X11.here hx rfl (hb hby d12_27) rfl ?_
    refine XS.iload X11.here hx rfl (hb hby d12_28) rfl ?_
    show Steps p.tables e below (T11.setTop (mkF m 30 #[.val (.ref a1), .val (.int 2), .val (.ref a2), .val (.int 2), .val (.int 3), .val (.int 2), .val (.int c2)] [(.int c2), (.int 2), (.ref a2)])) _
    refine XS.i2b X11.here hx rfl (hb hby d12_30) rfl ?_
    exact kt
  obtain ⟨cl18, Ar18, q18, Sz18, Ng18, Hs18, Gt18⟩ := id V11
  have hin18 : ¬ ((2 : Int32) < 0 ∨ cl18.slots.size ≤ ((2 : Int32)).toNatClampNeg) := inb_of Sz18 ⟨by decide, by decide⟩
  obtain ⟨T18, h18, X18, e18, W18, st18⟩ := stB X11 hx hZ e11 Ar18 (j := (2 : Int32)) hin18 (g := (mkF m 31 #[.val (.ref a1), .val (.int 2), .val (.ref a2), .val (.int 2), .val (.int 3), .val (.int 2), .val (.int c2)] [(.int (c2.toInt8.toInt32)), (.int 2), (.ref a2)])) rfl rfl (hb hby d12_31)
  have N18 := Fr.snoc X18 N11 g2
  have zs19 : n0 ≤ h18.size := Nat.le_trans zs12 (Keep.of_wr W18).1
  have kc20 : Keep h0 h18 [a2] := kc13.wr W18 (Or.inl (List.mem_of_getElem? (i := 0) rfl))
  have V18 : Arv Z h18 a2 kb .byte (3 : Int32) [(.int (nar .byte (c0.toInt8.toInt32))), (.int (nar .byte (c1.toInt8.toInt32))), (.int (nar .byte (c2.toInt8.toInt32)))] (.int 0) := Arv.set Ar18 q18 Sz18 Ng18 Hs18 Gt18 (fits_nar_byte _) W18 2 rfl (Nat.le_of_ble_eq_true rfl)
  have pre21 : own_Go p e below S0 (T18.setTop (mkF m 46 #[.val (.ref a1), .val (.int 3), .val (.ref a2), .val (.int 3), .val (.int 3), .val (.int 3), .val (.int c2)] [(.int 3)])) := by
    intro t kt
    refine pre17 t ?_
    refine st18 _ ?_
    refine XS.iinc X18.here hx rfl (hb hby d12_32) rfl (l' := #[.val (.ref a1), .val (.int 3), .val (.ref a2), .val (.int 2), .val (.int 3), .val (.int 2), .val (.int c2)]) rfl ?_
    refine XS.iinc X18.here hx rfl (hb hby d12_35) rfl (l' := #[.val (.ref a1), .val (.int 3), .val (.ref a2), .val (.int 3), .val (.int 3), .val (.int 2), .val (.int c2)]) rfl ?_
    refine XS.iinc X18.here hx rfl (hb hby d12_38) rfl (l' := #[.val (.ref a1), .val (.int 3), .val (.ref a2), .val (.int 3), .val (.int 3), .val (.int 3), .val (.int c2)]) rfl ?_
    show Steps p.tables e below (T18.setTop (mkF m 41 #[.val (.ref a1), .val (.int 3), .val (.ref a2), .val (.int 3), .val (.int 3), .val (.int 3), .val (.int c2)] [])) _
    refine XS.goto X18.here hx rfl (pc0 := 41) (pc' := 3) rfl (hb hby d12_41) (by decide) (by decide) ?_
    refine XS.iload X18.here hx rfl (hb hby d12_3) rfl ?_
    refine XS.iload X18.here hx rfl (hb hby d12_5) rfl ?_
    refine XS.icmpYes X18.here hx rfl (pc0 := 7) (pc' := 44) rfl (hb hby d12_7) rfl (flt (by decide : ¬ ((3 : Int32) < (3 : Int32)))).2.1 (by decide) (by decide) ?_
    show Steps p.tables e below (T18.setTop (mkF m 44 #[.val (.ref a1), .val (.int 3), .val (.ref a2), .val (.int 3), .val (.int 3), .val (.int 3), .val (.int c2)] [])) _
    refine XS.iload X18.here hx rfl (hb hby d12_44) rfl ?_
    exact kt
  obtain ⟨fs, hr, hrun, hended, hW, hsame⟩ := X18.leave (v := some (.int 3)) (fun h => by rw [Bd.returns] at h; cases h)
  refine ⟨_, _, fin _ (pre21 _ ?_), hrun, hended, _, _, rfl, ?_, ⟨_, rfl⟩, hW, hsame.mono (by decide) (by decide)⟩
  · exact retI X18 hx Bd.returns (hb hby d12_46) hr
  · show Qcmp5L3 Z a1 a2 kc kb c0 c1 c2 h0 n0 _ T18.heap _
    rw [e18]
    exact ⟨rfl, N18, kc20, V18⟩

theorem ef_cmp3L3 (m : MethodId) (x0 : Addr) : entryFrame m #[(.ref x0), (.int 0), (.int 3)] 6 = mkF m 0 #[.val (.ref x0), .val (.int 0), .val (.int 3), .unset, .unset, .unset] [] := by first | (simp [entryFrame, mkF, argsToLocals, Value.category]; done) | rfl
def Qcmp3L3 (Z : State) (a1 : Addr) (kc : ClassId) (c0 : Int32) (c1 : Int32) (c2 : Int32) (h0 : Heap) (n0 : Nat) (v : Option Value) (h : Heap) (L : List Loc) : Prop := ∃ b : Addr, ∃ kb : ClassId, v = (some (.ref b)) ∧ Fr n0 L ∧ Keep h0 h [] ∧ h0.size ≤ b ∧ Arv Z h b kb .byte (3 : Int32) [(.int (nar .byte (c0.toInt8.toInt32))), (.int (nar .byte (c1.toInt8.toInt32))), (.int (nar .byte (c2.toInt8.toInt32)))] (.int 0)
set_option maxRecDepth 65536 in
set_option maxHeartbeats 40000000 in
theorem rmcmp3L3 (l : Launch) (Z : State) (a0 : Array Value) (hw : ∀ d ∈ tables_1, d.before a0 Z = true) (ws : List Jvm.Cond) (a1 : Addr) (kc : ClassId) (c0 : Int32) (c1 : Int32) (c2 : Int32) (h0 : Heap) (n0 : Nat) (Z0 : n0 ≤ h0.size) (VC : Arv Z h0 a1 kc .char (3 : Int32) [(.int c0), (.int c1), (.int c2)] (.int 0)) (lt_0 : (¬ (255 : Int32) < c0)) (lt_1 : (¬ (255 : Int32) < c1)) (lt_2 : (¬ (255 : Int32) < c2)) :
    MetFree l own_m12 (head1 (Jvm.Cond.code own_m12 jdk_52_method_16_code 6 (some (.array .byte)) :: ws) (own_r 1 1 3 18)) (fun a U => a = #[(.ref a1), (.int 0), (.int 3)] ∧ Z.Warmed39 U.vm ∧ U.heap = h0) (fun _ _ _ _ _ => True) (fun _ U o U' => ∃ v L, o = .returned v ∧ Qcmp3L3 Z a1 kc c0 c1 c2 h0 n0 v U'.heap L ∧ FrameEnd U o U' L (own_r 1 1 3 18).cells (own_r 1 1 3 18).slots) := by
  refine MetFree.of_bodySF (plainFor_of_name pn_11) hisR ?_
  intro p e s m args below meth c s₁ Bd hml0 hP hK
  obtain ⟨rfl, hZ, hh⟩ := hP
  have hx := Bd.exec
  have hby := Bd.bytes
  have hml : c.maxLocals = 6 := hml0
  have hown0 := findClass_of_methodNamed Bd.named
  have hown : s.vm.findClass "java/lang/StringUTF16" = some m.cls := hown0
  have hnm := (name_of_methodNamed Bd.named Bd.method).1
  have X0 : Stand p l e (own_r 1 1 3 18) s m #[(.ref a1), (.int 0), (.int 3)] below meth c s₁ [] 0 0 := Stand.of_body Bd
  have e0 : s₁.heap = h0 := by rw [← hh, Bd.state]; rfl
  have N0 := Fr.nil n0
  obtain ⟨S0, hS0⟩ : ∃ z, z = s₁.setTop (entryFrame m #[(.ref a1), (.int 0), (.int 3)] 6) := ⟨_, rfl⟩
  have pre0 : own_Go p e below S0 (s₁.setTop (mkF m 0 #[.val (.ref a1), .val (.int 0), .val (.int 3), .unset, .unset, .unset] [])) := fun t k => by rw [hS0]; exact castTop (ef_cmp3L3 m a1) k
  have fin : ∀ t, Steps p.tables e below S0 t → Steps p.tables e below (s₁.setTop (entryFrame m #[(.ref a1), (.int 0), (.int 3)] 6)) t := fun t k => by rw [hS0] at k; exact k
  have kc0 : Keep h0 h0 [] := Keep.refl _ _
  have pre1 : own_Go p e below S0 (s₁.setTop (mkF m 1 #[.val (.ref a1), .val (.int 0), .val (.int 3), .unset, .unset, .unset] [(.int 3)])) := by
    intro t kt
    refine pre0 t ?_
    refine XS.iloadN X0.here hx rfl (hb hby d11_0) rfl ?_
    exact kt
  obtain ⟨T2, h2, k2, X2, e2, E2, A2, st2⟩ := newP X0 hx hZ (hw _ (own_w 19 rfl)) e0 (g := (mkF m 1 #[.val (.ref a1), .val (.int 0), .val (.int 3), .unset, .unset, .unset] [(.int 3)])) rfl (hb hby d11_1) rfl (by decide) (cap := 3) (by decide) (by decide) (by decide) (by decide)
  obtain ⟨b2, g2⟩ : ∃ z, z = h0.size := ⟨_, rfl⟩
  rw [← g2] at A2 st2
  have ne3 : a1 ≠ b2 := Nat.ne_of_lt (Nat.lt_of_lt_of_le VC.lt (Nat.le_of_eq g2.symm))
  have ge4 : n0 ≤ b2 := Nat.le_trans Z0 (Nat.le_of_eq g2.symm)
  have sz5 : h0.size ≤ b2 := Nat.le_trans kc0.1 (Nat.le_of_eq g2.symm)
  have zs6 : n0 ≤ h2.size := Nat.le_trans Z0 E2.1
  have kc7 : Keep h0 h2 [] := kc0.ext E2
  have V2 : Arv Z h2 b2 k2 .byte (3 : Int32) [(.int 0), (.int 0), (.int 0)] (.int 0) := (Arv.new A2 (by decide)).pad (pad_rep [] (.int 0) 3)
  have pre8 : own_Go p e below S0 (T2.setTop (mkF m 9 #[.val (.ref a1), .val (.int 0), .val (.int 3), .val (.ref b2), .unset, .unset] [(.int 3), (.int 0), (.ref b2), (.int 0), (.ref a1)])) := by
    intro t kt
    refine pre1 t ?_
    refine st2 _ ?_
    refine XS.astoreN X2.here hx rfl (hb hby d11_3) rfl rfl (l' := #[.val (.ref a1), .val (.int 0), .val (.int 3), .val (.ref b2), .unset, .unset]) rfl ?_
    refine XS.aloadN X2.here hx rfl (hb hby d11_4) rfl rfl ?_
    refine XS.iloadN X2.here hx rfl (hb hby d11_5) rfl ?_
    show Steps p.tables e below (T2.setTop (mkF m 6 #[.val (.ref a1), .val (.int 0), .val (.int 3), .val (.ref b2), .unset, .unset] [(.int 0), (.ref a1)])) _
    refine XS.aloadN X2.here hx rfl (hb hby d11_6) rfl rfl ?_
    refine XS.iconst X2.here hx rfl (hb hby d11_7) ?_
    refine XS.iloadN X2.here hx rfl (hb hby d11_8) rfl ?_
    exact kt
  have f9 : Arv Z h2 a1 kc .char (3 : Int32) [(.int c0), (.int c1), (.int c2)] (.int 0) := (VC.ext E2)
  obtain ⟨_, _, ⟨T10, L10, k10, n10⟩, -, X10, ⟨Lc10, hQ10, l10, y10, z10⟩, st10⟩ := Jvm.LawKit.callS X2 hx (y := own_m13) hown (mvT hZ (hw _ (own_w 77 rfl))) (mvT hZ (hw _ (own_w 78 rfl))) (mvT hZ (hw _ (own_w 75 rfl))) (mvT hZ (hw _ (own_w 79 rfl))) (by decide) (backOf (W := 0) (rmcmp5L3 l Z a0 hw [] a1 b2 kc k2 c0 c1 c2 h2 n0 zs6 f9 ge4 V2 ne3 lt_0 lt_1 lt_2) hZ (hw _ (own_w 79 rfl)) (hw _ (own_w 75 rfl)) (by decide) (by decide)) (g := (mkF m 9 #[.val (.ref a1), .val (.int 0), .val (.int 3), .val (.ref b2), .unset, .unset] [(.int 3), (.int 0), (.ref b2), (.int 0), (.ref a1)])) rfl (by rw [hml]; rfl) (argsL := [(.ref a1), (.int 0), (.ref b2), (.int 0), (.int 3)]) (rest := []) (lenOf pd_1 rfl) rfl (by show 2 * 0 + _ ≤ _; exact Nat.le_of_eq rfl) (hb hby d11_9) (fun _ _ => ⟨rfl, e2, (by decide : 1 + 0 ≤ _), (by decide : 3 + 0 ≤ _)⟩)
  dsimp only [Pt.U, Pt.locs, Pt.cells, Pt.slots] at X10 l10 y10 z10 st10 hQ10
  subst l10 y10 z10
  obtain ⟨rfl, Nq10, K10, g11⟩ := hQ10
  have N10 := Fr.app N0 Nq10
  have zs12 : n0 ≤ T10.heap.size := Nat.le_trans zs6 K10.1
  have kc13 : Keep h0 T10.heap [] := kc7.trans K10 (allS (Or.inr sz5) all0)
  have pre14 : own_Go p e below S0 (T10.setTop (mkF m 58 #[.val (.ref a1), .val (.int 0), .val (.int 3), .val (.ref b2), .val (.int 3), .unset] [(.ref b2)])) := by
    intro t kt
    refine pre8 t ?_
    refine st10 _ ?_
    show Steps p.tables e below (T10.setTop (mkF m 12 #[.val (.ref a1), .val (.int 0), .val (.int 3), .val (.ref b2), .unset, .unset] [(.int 3)])) _
    refine XS.istore X10.here hx rfl (hb hby d11_12) rfl (l' := #[.val (.ref a1), .val (.int 0), .val (.int 3), .val (.ref b2), .val (.int 3), .unset]) rfl ?_
    refine XS.iload X10.here hx rfl (hb hby d11_14) rfl ?_
    refine XS.iloadN X10.here hx rfl (hb hby d11_16) rfl ?_
    show Steps p.tables e below (T10.setTop (mkF m 17 #[.val (.ref a1), .val (.int 0), .val (.int 3), .val (.ref b2), .val (.int 3), .unset] [(.int 3), (.int 3)])) _
    refine XS.icmpYes X10.here hx rfl (pc0 := 17) (pc' := 57) rfl (hb hby d11_17) rfl (teq (by decide : (3 : Int32) = (3 : Int32))).1 (by decide) (by decide) ?_
    refine XS.aloadN X10.here hx rfl (hb hby d11_57) rfl rfl ?_
    exact kt
  obtain ⟨fs, hr, hrun, hended, hW, hsame⟩ := X10.leave (v := some (.ref b2)) (fun h => by rw [Bd.returns] at h; cases h)
  refine ⟨_, _, fin _ (pre14 _ ?_), hrun, hended, _, _, rfl, ?_, ⟨_, rfl⟩, hW, hsame.mono (by decide) (by decide)⟩
  · jvm_step X10.here [X10.here.top, hx, (hb hby d11_58), X10.method', Bd.returns, Value.isRef, FieldType.isReference]
    first | (intro acts; rw [hr _ acts rfl rfl rfl]) | rw [hr _ _ rfl rfl rfl]
    exact Steps.refl _
  · show Qcmp3L3 Z a1 kc c0 c1 c2 h0 n0 _ T10.heap _
    exact ⟨b2, k2, rfl, N10, kc13, sz5, g11⟩

theorem ef_ini4L3 (m : MethodId) (x0 : Addr) (x1 : Addr) : entryFrame m #[(.ref x0), (.ref x1), (.int 0), (.int 3), .null] 6 = mkF m 0 #[.val (.ref x0), .val (.ref x1), .val (.int 0), .val (.int 3), .val .null, .unset] [] := by first | (simp [entryFrame, mkF, argsToLocals, Value.category]; done) | rfl
def Qini4L3 (Z : State) (a1 : Addr) (a2 : Addr) (kc : ClassId) (c0 : Int32) (c1 : Int32) (c2 : Int32) (wC : Int32) (h0 : Heap) (n0 : Nat) (v : Option Value) (h : Heap) (L : List Loc) : Prop := ∃ vb : Addr, ∃ kb : ClassId, v = none ∧ Fr n0 L ∧ Keep h0 h [a1] ∧ h0.size ≤ vb ∧ own_StrL Z h a1 vb kb [c0, c1, c2]
set_option maxRecDepth 65536 in
set_option maxHeartbeats 40000000 in
theorem rmini4L3 (l : Launch) (Z : State) (a0 : Array Value) (hw : ∀ d ∈ tables_1, d.before a0 Z = true) (ws : List Jvm.Cond) (a1 : Addr) (a2 : Addr) (kc : ClassId) (c0 : Int32) (c1 : Int32) (c2 : Int32) (wC : Int32) (h0 : Heap) (n0 : Nat) (Z0 : n0 ≤ h0.size) (O0 : Old Z n0 h0) (qC : (own_SC Z wC)) (pE1 : Exa Z h0 a1 "java/lang/String") (pF1 : Fld Z h0 a1 "java/lang/String" "value" "[B" .null) (pF2 : Fld Z h0 a1 "java/lang/String" "coder" "B" (.int 0)) (pg1 : n0 ≤ a1) (VC : Arv Z h0 a2 kc .char (3 : Int32) [(.int c0), (.int c1), (.int c2)] (.int 0)) (lt_0 : (¬ (255 : Int32) < c0)) (lt_1 : (¬ (255 : Int32) < c1)) (lt_2 : (¬ (255 : Int32) < c2)) :
    MetFree l own_m8 (head1 (Jvm.Cond.code own_m8 jdk_42_method_149_code 6 none :: ws) (own_r 2 1 3 35)) (fun a U => a = #[(.ref a1), (.ref a2), (.int 0), (.int 3), .null] ∧ Z.Warmed39 U.vm ∧ U.heap = h0) (fun _ _ _ _ _ => True) (fun _ U o U' => ∃ v L, o = .returned v ∧ Qini4L3 Z a1 a2 kc c0 c1 c2 wC h0 n0 v U'.heap L ∧ FrameEnd U o U' L (own_r 2 1 3 35).cells (own_r 2 1 3 35).slots) := by
  refine MetFree.of_bodySF (plainFor_of_name pn_3) hisR ?_
  intro p e s m args below meth c s₁ Bd hml0 hP hK
  obtain ⟨rfl, hZ, hh⟩ := hP
  have hx := Bd.exec
  have hby := Bd.bytes
  have hml : c.maxLocals = 6 := hml0
  have hown0 := findClass_of_methodNamed Bd.named
  have hown : s.vm.findClass "java/lang/String" = some m.cls := hown0
  have hnm := (name_of_methodNamed Bd.named Bd.method).1
  have X0 : Stand p l e (own_r 2 1 3 35) s m #[(.ref a1), (.ref a2), (.int 0), (.int 3), .null] below meth c s₁ [] 0 0 := Stand.of_body Bd
  have e0 : s₁.heap = h0 := by rw [← hh, Bd.state]; rfl
  have N0 := Fr.nil n0
  obtain ⟨S0, hS0⟩ : ∃ z, z = s₁.setTop (entryFrame m #[(.ref a1), (.ref a2), (.int 0), (.int 3), .null] 6) := ⟨_, rfl⟩
  have pre0 : own_Go p e below S0 (s₁.setTop (mkF m 0 #[.val (.ref a1), .val (.ref a2), .val (.int 0), .val (.int 3), .val .null, .unset] [])) := fun t k => by rw [hS0]; exact castTop (ef_ini4L3 m a1 a2) k
  have fin : ∀ t, Steps p.tables e below S0 t → Steps p.tables e below (s₁.setTop (entryFrame m #[(.ref a1), (.ref a2), (.int 0), (.int 3), .null] 6)) t := fun t k => by rw [hS0] at k; exact k
  have kc0 : Keep h0 h0 [a1] := Keep.refl _ _
  have pre1 : own_Go p e below S0 (s₁.setTop (mkF m 1 #[.val (.ref a1), .val (.ref a2), .val (.int 0), .val (.int 3), .val .null, .unset] [(.ref a1)])) := by
    intro t kt
    refine pre0 t ?_
    refine XS.aloadN X0.here hx rfl (hb hby d3_0) rfl rfl ?_
    exact kt
  obtain ⟨T2, X2, e2, st2⟩ := initO X0 hx hZ hown (hw _ (own_w 15 rfl)) (hw _ (own_w 16 rfl)) (hw _ (own_w 17 rfl)) e0 (g := (mkF m 1 #[.val (.ref a1), .val (.ref a2), .val (.int 0), .val (.int 3), .val .null, .unset] [(.ref a1)])) rfl (by rw [hml]; rfl) rfl (hb hby d3_1) (by decide) (W := 0) (by show 2 * 0 + _ ≤ _; exact Nat.le_of_eq rfl) (by decide)
  have pre3 : own_Go p e below S0 (T2.setTop (mkF m 27 #[.val (.ref a1), .val (.ref a2), .val (.int 0), .val (.int 3), .val .null, .unset] [])) := by
    intro t kt
    refine pre1 t ?_
    refine st2 _ ?_
    refine XS.iloadN X2.here hx rfl (hb hby d3_4) rfl ?_
    refine XS.ifYes X2.here hx rfl (pc0 := 5) (pc' := 27) rfl (hb hby d3_5) rfl ((if0 _ _).trans (feq (by decide : ¬ ((3 : Int32) = (0 : Int32)))).2) (by decide) (by decide) ?_
    exact kt
  obtain ⟨T4, X4, e4, st4⟩ := getS2 X2 hx hZ hown (host := "") (Or.inl (hw _ (own_w 72 rfl))) Via.refl e2 (qC.1.ext O0.2) (g := (mkF m 27 #[.val (.ref a1), .val (.ref a2), .val (.int 0), .val (.int 3), .val .null, .unset] [])) rfl (hb hby d3_27)
  have pre5 : own_Go p e below S0 (T4.setTop (mkF m 36 #[.val (.ref a1), .val (.ref a2), .val (.int 0), .val (.int 3), .val .null, .unset] [(.int 3), (.int 0), (.ref a2)])) := by
    intro t kt
    refine pre3 t ?_
    refine st4 _ ?_
    refine XS.ifNo X4.here hx rfl (hb hby d3_30) rfl ((if0 _ _).trans (feq qC.2).1) ?_
    refine XS.aloadN X4.here hx rfl (hb hby d3_33) rfl rfl ?_
    refine XS.iloadN X4.here hx rfl (hb hby d3_34) rfl ?_
    show Steps p.tables e below (T4.setTop (mkF m 35 #[.val (.ref a1), .val (.ref a2), .val (.int 0), .val (.int 3), .val .null, .unset] [(.int 0), (.ref a2)])) _
    refine XS.iloadN X4.here hx rfl (hb hby d3_35) rfl ?_
    exact kt
  obtain ⟨_, _, ⟨T6, L6, k6, n6⟩, -, X6, ⟨Lc6, hQ6, l6, y6, z6⟩, st6⟩ := Jvm.LawKit.callS X4 hx (y := own_m12) hown (mvT hZ (hw _ (own_w 73 rfl))) (mvT hZ (hw _ (own_w 74 rfl))) (mvT hZ (hw _ (own_w 75 rfl))) (mvT hZ (hw _ (own_w 76 rfl))) (by decide) (backOf (W := 0) (rmcmp3L3 l Z a0 hw [] a2 kc c0 c1 c2 h0 n0 Z0 VC lt_0 lt_1 lt_2) hZ (hw _ (own_w 76 rfl)) (hw _ (own_w 75 rfl)) (by decide) (by decide)) (g := (mkF m 36 #[.val (.ref a1), .val (.ref a2), .val (.int 0), .val (.int 3), .val .null, .unset] [(.int 3), (.int 0), (.ref a2)])) rfl (by rw [hml]; rfl) (argsL := [(.ref a2), (.int 0), (.int 3)]) (rest := []) (lenOf pd_2 rfl) rfl (by show 2 * 0 + _ ≤ _; exact Nat.le_of_eq rfl) (hb hby d3_36) (fun _ _ => ⟨rfl, e4, (by decide : 0 + 1 ≤ _), (by decide : 0 + 3 ≤ _)⟩)
  dsimp only [Pt.U, Pt.locs, Pt.cells, Pt.slots] at X6 l6 y6 z6 st6 hQ6
  subst l6 y6 z6
  obtain ⟨b7, kb8, rfl, Nq6, K6, g9, g10⟩ := hQ6
  have N6 := Fr.app N0 Nq6
  have ne11 : a1 ≠ b7 := Nat.ne_of_lt (Nat.lt_of_lt_of_le pE1.lt g9)
  have ne12 : a2 ≠ b7 := Nat.ne_of_lt (Nat.lt_of_lt_of_le VC.lt g9)
  have ge13 : n0 ≤ b7 := Nat.le_trans Z0 g9
  have sz14 : h0.size ≤ b7 := Nat.le_trans kc0.1 g9
  have zs15 : n0 ≤ T6.heap.size := Nat.le_trans Z0 K6.1
  have kc16 : Keep h0 T6.heap [a1] := kc0.trans K6 all0
  have pre17 : own_Go p e below S0 (T6.setTop (mkF m 45 #[.val (.ref a1), .val (.ref a2), .val (.int 0), .val (.int 3), .val .null, .val (.ref b7)] [(.int 3), (.ref b7), (.ref a1)])) := by
    intro t kt
    refine pre5 t ?_
    refine st6 _ ?_
    show Steps p.tables e below (T6.setTop (mkF m 39 #[.val (.ref a1), .val (.ref a2), .val (.int 0), .val (.int 3), .val .null, .unset] [(.ref b7)])) _
    refine XS.astore X6.here hx rfl (hb hby d3_39) rfl rfl (l' := #[.val (.ref a1), .val (.ref a2), .val (.int 0), .val (.int 3), .val .null, .val (.ref b7)]) rfl ?_
    refine XS.aloadN X6.here hx rfl (hb hby d3_41) rfl rfl ?_
    refine XS.aload X6.here hx rfl (hb hby d3_42) rfl rfl ?_
    show Steps p.tables e below (T6.setTop (mkF m 44 #[.val (.ref a1), .val (.ref a2), .val (.int 0), .val (.int 3), .val .null, .val (.ref b7)] [(.ref b7), (.ref a1)])) _
    refine XS.iloadN X6.here hx rfl (hb hby d3_44) rfl ?_
    exact kt
  obtain ⟨_, _, ⟨T18, L18, k18, n18⟩, -, X18, ⟨Lc18, hQ18, l18, y18, z18⟩, st18⟩ := Jvm.LawKit.callS X6 hx (y := own_m11) hown (mvT hZ (hw _ (own_w 80 rfl))) (mvT hZ (hw _ (own_w 81 rfl))) (mvT hZ (hw _ (own_w 75 rfl))) (mvT hZ (hw _ (own_w 82 rfl))) (by decide) (backOf (W := 1) (rmcofa l Z a0 hw [] b7 (3 : Int32) kb8 (3 : Int32) [(.int (nar .byte (c0.toInt8.toInt32))), (.int (nar .byte (c1.toInt8.toInt32))), (.int (nar .byte (c2.toInt8.toInt32)))] (.int 0) T6.heap n0 zs15 g10) hZ (hw _ (own_w 82 rfl)) (hw _ (own_w 75 rfl)) (by decide) (by decide)) (g := (mkF m 45 #[.val (.ref a1), .val (.ref a2), .val (.int 0), .val (.int 3), .val .null, .val (.ref b7)] [(.int 3), (.ref b7), (.ref a1)])) rfl (by rw [hml]; rfl) (argsL := [(.ref b7), (.int 3)]) (rest := [(.ref a1)]) (lenOf pd_3 rfl) rfl (by show 2 * 0 + _ ≤ _; exact Nat.le_of_eq rfl) (hb hby d3_45) (fun _ _ => ⟨rfl, rfl, (by decide : 1 + 0 ≤ _), (by decide : 3 + 0 ≤ _)⟩)
  dsimp only [Pt.U, Pt.locs, Pt.cells, Pt.slots] at X18 l18 y18 z18 st18 hQ18
  subst l18 y18 z18
  obtain ⟨rfl, Nq18, eq18⟩ := hQ18
  have N18 := Fr.app N6 Nq18
  have pre19 : own_Go p e below S0 (T18.setTop (mkF m 48 #[.val (.ref a1), .val (.ref a2), .val (.int 0), .val (.int 3), .val .null, .val (.ref b7)] [(.int (own_cofa (3 : Int32) (3 : Int32))), (.ref a1)])) := by
    intro t kt
    refine pre17 t ?_
    refine st18 _ ?_
    show Steps p.tables e below (T18.setTop (mkF m 48 #[.val (.ref a1), .val (.ref a2), .val (.int 0), .val (.int 3), .val .null, .val (.ref b7)] [(.int (own_cofa (3 : Int32) (3 : Int32))), (.ref a1)])) _
    exact kt
  have pre20 : own_Go p e below S0 (T18.setTop (mkF m 48 #[.val (.ref a1), .val (.ref a2), .val (.int 0), .val (.int 3), .val .null, .val (.ref b7)] [(.int 0), (.ref a1)])) := by
    intro t kt
    refine pre19 t ?_
    rw [(by decide : (own_cofa (3 : Int32) (3 : Int32)) = (0 : Int32))]
    exact kt
  have f21 : Fld Z T6.heap a1 "java/lang/String" "coder" "B" (.int 0) := (pF2.keep K6 nin0)
  have f22 : Exa Z T6.heap a1 "java/lang/String" := (pE1.keep K6)
  obtain ⟨T23, h23, X23, e23, W23, st23⟩ := putFN X18 hx hZ hown (hw _ (own_w 25 rfl)) Via.refl eq18 f21 f22 (Or.inr ⟨(hw _ (own_w 21 rfl)), rfl, hnm⟩) (hw _ (own_w 6 rfl)) (ty := .byte) (v' := (.int 0)) (by decide) rfl (by decide) (g := (mkF m 48 #[.val (.ref a1), .val (.ref a2), .val (.int 0), .val (.int 3), .val .null, .val (.ref b7)] [(.int 0), (.ref a1)])) rfl rfl (hb hby d3_48)
  have N23 := Fr.snoc X23 N18 pg1
  have zs24 : n0 ≤ h23.size := Nat.le_trans zs15 (Keep.of_wr W23).1
  have kc25 : Keep h0 h23 [a1] := kc16.wr W23 (Or.inl (List.mem_of_getElem? (i := 0) rfl))
  have fw23 : Fld Z h23 a1 "java/lang/String" "coder" "B" (.int 0) := f21.same W23
  have pre26 : own_Go p e below S0 (T23.setTop (mkF m 54 #[.val (.ref a1), .val (.ref a2), .val (.int 0), .val (.int 3), .val .null, .val (.ref b7)] [(.ref b7), (.ref a1)])) := by
    intro t kt
    refine pre20 t ?_
    refine st23 _ ?_
    refine XS.aloadN X23.here hx rfl (hb hby d3_51) rfl rfl ?_
    refine XS.aload X23.here hx rfl (hb hby d3_52) rfl rfl ?_
    exact kt
  have f27 : Fld Z h23 a1 "java/lang/String" "value" "[B" .null := ((pF1.keep K6 nin0).other W23 (Or.inr (slot_ne (Or.inr (hw _ (own_w 20 rfl))) (Or.inr (hw _ (own_w 21 rfl))) (by decide) (t := (.array .byte)) (t' := .byte) (by decide) (by decide))))
  have f28 : Exa Z h23 a1 "java/lang/String" := (f22.wr W23)
  obtain ⟨T29, h29, X29, e29, W29, st29⟩ := putF X23 hx hZ hown (host := "") (Or.inl (hw _ (own_w 24 rfl))) Via.refl e23 f27 f28 (Or.inr ⟨(hw _ (own_w 20 rfl)), rfl, hnm⟩) (hw _ (own_w 6 rfl)) (ty := (.array .byte)) (by decide) rfl rfl (g := (mkF m 54 #[.val (.ref a1), .val (.ref a2), .val (.int 0), .val (.int 3), .val .null, .val (.ref b7)] [(.ref b7), (.ref a1)])) rfl rfl (hb hby d3_54)
  have N29 := Fr.snoc X29 N23 pg1
  have zs30 : n0 ≤ h29.size := Nat.le_trans zs24 (Keep.of_wr W29).1
  have kc31 : Keep h0 h29 [a1] := kc25.wr W29 (Or.inl (List.mem_of_getElem? (i := 0) rfl))
  have fw29 : Fld Z h29 a1 "java/lang/String" "value" "[B" (.ref b7) := f27.same W29
  have pre32 : own_Go p e below S0 (T29.setTop (mkF m 57 #[.val (.ref a1), .val (.ref a2), .val (.int 0), .val (.int 3), .val .null, .val (.ref b7)] [])) := by
    intro t kt
    refine pre26 t ?_
    refine st29 _ ?_
    exact kt
  have f33 : Exa Z h29 a1 "java/lang/String" := (f28.wr W29)
  have f34 : Fld Z h29 a1 "java/lang/String" "coder" "B" (.int 0) := (fw23.other W29 (Or.inr (slot_ne (Or.inr (hw _ (own_w 21 rfl))) (Or.inr (hw _ (own_w 20 rfl))) (by decide) (t := .byte) (t' := (.array .byte)) (by decide) (by decide))))
  have f35 : Arv Z h29 b7 kb8 .byte (3 : Int32) [(.int (nar .byte (c0.toInt8.toInt32))), (.int (nar .byte (c1.toInt8.toInt32))), (.int (nar .byte (c2.toInt8.toInt32)))] (.int 0) := ((g10.other W23 (Ne.symm ne11)).other W29 (Ne.symm ne11))
  obtain ⟨fs, hr, hrun, hended, hW, hsame⟩ := X29.leave (v := none) (fun _ => rfl)
  refine ⟨_, _, fin _ (pre32 _ ?_), hrun, hended, _, _, rfl, ?_, ⟨_, rfl⟩, hW, hsame.mono (by decide) (by decide)⟩
  · exact X29.returnOut hx Bd.returns (hb hby d3_57) hr
  · show Qini4L3 Z a1 a2 kc c0 c1 c2 wC h0 n0 _ T29.heap _
    rw [e29]
    exact ⟨b7, kb8, rfl, N29, kc31, sz14, ⟨f33, fw29, f34, f35⟩⟩

theorem ef_ini1L3 (m : MethodId) (x0 : Addr) (x1 : Addr) : entryFrame m #[(.ref x0), (.ref x1)] 2 = mkF m 0 #[.val (.ref x0), .val (.ref x1)] [] := by first | (simp [entryFrame, mkF, argsToLocals, Value.category]; done) | rfl
def Qini1L3 (Z : State) (a1 : Addr) (a2 : Addr) (kc : ClassId) (c0 : Int32) (c1 : Int32) (c2 : Int32) (wC : Int32) (h0 : Heap) (n0 : Nat) (v : Option Value) (h : Heap) (L : List Loc) : Prop := ∃ vb : Addr, ∃ kb : ClassId, v = none ∧ Fr n0 L ∧ Keep h0 h [a1] ∧ h0.size ≤ vb ∧ own_StrL Z h a1 vb kb [c0, c1, c2]
set_option maxRecDepth 65536 in
set_option maxHeartbeats 40000000 in
theorem rmini1L3 (l : Launch) (Z : State) (a0 : Array Value) (hw : ∀ d ∈ tables_1, d.before a0 Z = true) (ws : List Jvm.Cond) (a1 : Addr) (a2 : Addr) (kc : ClassId) (c0 : Int32) (c1 : Int32) (c2 : Int32) (wC : Int32) (h0 : Heap) (n0 : Nat) (Z0 : n0 ≤ h0.size) (O0 : Old Z n0 h0) (qC : (own_SC Z wC)) (pE1 : Exa Z h0 a1 "java/lang/String") (pF1 : Fld Z h0 a1 "java/lang/String" "value" "[B" .null) (pF2 : Fld Z h0 a1 "java/lang/String" "coder" "B" (.int 0)) (pg1 : n0 ≤ a1) (VC : Arv Z h0 a2 kc .char (3 : Int32) [(.int c0), (.int c1), (.int c2)] (.int 0)) (lt_0 : (¬ (255 : Int32) < c0)) (lt_1 : (¬ (255 : Int32) < c1)) (lt_2 : (¬ (255 : Int32) < c2)) :
    MetFree l own_m7 (head1 (Jvm.Cond.code own_m7 jdk_42_method_3_code 2 none :: ws) (own_r 3 1 3 52)) (fun a U => a = #[(.ref a1), (.ref a2)] ∧ Z.Warmed39 U.vm ∧ U.heap = h0) (fun _ _ _ _ _ => True) (fun _ U o U' => ∃ v L, o = .returned v ∧ Qini1L3 Z a1 a2 kc c0 c1 c2 wC h0 n0 v U'.heap L ∧ FrameEnd U o U' L (own_r 3 1 3 52).cells (own_r 3 1 3 52).slots) := by
  refine MetFree.of_bodySF (plainFor_of_name pn_2) hisR ?_
  intro p e s m args below meth c s₁ Bd hml0 hP hK
  obtain ⟨rfl, hZ, hh⟩ := hP
  have hx := Bd.exec
  have hby := Bd.bytes
  have hml : c.maxLocals = 2 := hml0
  have hown0 := findClass_of_methodNamed Bd.named
  have hown : s.vm.findClass "java/lang/String" = some m.cls := hown0
  have hnm := (name_of_methodNamed Bd.named Bd.method).1
  have X0 : Stand p l e (own_r 3 1 3 52) s m #[(.ref a1), (.ref a2)] below meth c s₁ [] 0 0 := Stand.of_body Bd
  have e0 : s₁.heap = h0 := by rw [← hh, Bd.state]; rfl
  have N0 := Fr.nil n0
  obtain ⟨S0, hS0⟩ : ∃ z, z = s₁.setTop (entryFrame m #[(.ref a1), (.ref a2)] 2) := ⟨_, rfl⟩
  have pre0 : own_Go p e below S0 (s₁.setTop (mkF m 0 #[.val (.ref a1), .val (.ref a2)] [])) := fun t k => by rw [hS0]; exact castTop (ef_ini1L3 m a1 a2) k
  have fin : ∀ t, Steps p.tables e below S0 t → Steps p.tables e below (s₁.setTop (entryFrame m #[(.ref a1), (.ref a2)] 2)) t := fun t k => by rw [hS0] at k; exact k
  have kc0 : Keep h0 h0 [a1] := Keep.refl _ _
  have pre1 : own_Go p e below S0 (s₁.setTop (mkF m 4 #[.val (.ref a1), .val (.ref a2)] [(.ref a2), (.int 0), (.ref a2), (.ref a1)])) := by
    intro t kt
    refine pre0 t ?_
    refine XS.aloadN X0.here hx rfl (hb hby d2_0) rfl rfl ?_
    refine XS.aloadN X0.here hx rfl (hb hby d2_1) rfl rfl ?_
    refine XS.iconst X0.here hx rfl (hb hby d2_2) ?_
    refine XS.aloadN X0.here hx rfl (hb hby d2_3) rfl rfl ?_
    show Steps p.tables e below (s₁.setTop (mkF m 4 #[.val (.ref a1), .val (.ref a2)] [(.ref a2), (.int 0), (.ref a2), (.ref a1)])) _
    exact kt
  obtain ⟨cl2, Ar2, -, Sz2, Ng2, -, -⟩ := id VC
  have pre3 : own_Go p e below S0 (s₁.setTop (mkF m 6 #[.val (.ref a1), .val (.ref a2)] [.null, (.int 3), (.int 0), (.ref a2), (.ref a1)])) := by
    intro t kt
    refine pre1 t ?_
    refine X0.arraylength hx (by rw [e0]; exact Ar2.1) (State.isArrayOf_alike hZ.alike Ar2.2.1) (g := (mkF m 4 #[.val (.ref a1), .val (.ref a2)] [(.ref a2), (.int 0), (.ref a2), (.ref a1)])) rfl rfl (hb hby d2_4) _ ?_
    rw [len_of Sz2 Ng2]
    show Steps p.tables e below (s₁.setTop (mkF m 5 #[.val (.ref a1), .val (.ref a2)] [(.int 3), (.int 0), (.ref a2), (.ref a1)])) _
    refine XS.aconstNull X0.here hx rfl (hb hby d2_5) ?_
    exact kt
  obtain ⟨_, _, ⟨T4, L4, k4, n4⟩, -, X4, ⟨Lc4, hQ4, l4, y4, z4⟩, st4⟩ := X0.specialBack hx (y := own_m8) rfl hown (mvT hZ (hw _ (own_w 11 rfl))) (mvT hZ (hw _ (own_w 12 rfl))) (mvT hZ (hw _ (own_w 14 rfl))) (by decide) (backOf (W := 0) (rmini4L3 l Z a0 hw [] a1 a2 kc c0 c1 c2 wC h0 n0 Z0 O0 qC pE1 pF1 pF2 pg1 VC lt_0 lt_1 lt_2) hZ (hw _ (own_w 14 rfl)) (hw _ (own_w 7 rfl)) (by decide) (by decide)) (g := (mkF m 6 #[.val (.ref a1), .val (.ref a2)] [.null, (.int 3), (.int 0), (.ref a2), (.ref a1)])) rfl (by rw [hml]; rfl) (Steps.refl _) (a := a1) (argsL := [(.ref a2), (.int 0), (.int 3), .null]) (rest := []) (lenOf pd_0 rfl) rfl (by show 2 * 0 + _ ≤ _; exact Nat.le_of_eq rfl) (hb hby d2_6) (fun _ _ => ⟨rfl, e0, (by decide : 0 + 1 ≤ _), (by decide : 0 + 3 ≤ _)⟩)
  dsimp only [Pt.U, Pt.locs, Pt.cells, Pt.slots] at X4 l4 y4 z4 st4 hQ4
  subst l4 y4 z4
  obtain ⟨vb5, kb6, rfl, Nq4, K4, g7, g8⟩ := hQ4
  have N4 := Fr.app N0 Nq4
  have ne9 : a1 ≠ vb5 := Nat.ne_of_lt (Nat.lt_of_lt_of_le pE1.lt g7)
  have ne10 : a2 ≠ vb5 := Nat.ne_of_lt (Nat.lt_of_lt_of_le VC.lt g7)
  have ge11 : n0 ≤ vb5 := Nat.le_trans Z0 g7
  have sz12 : h0.size ≤ vb5 := Nat.le_trans kc0.1 g7
  have zs13 : n0 ≤ T4.heap.size := Nat.le_trans Z0 K4.1
  have kc14 : Keep h0 T4.heap [a1] := kc0.trans K4 (allS (Or.inl (List.mem_of_getElem? (i := 0) rfl)) all0)
  have pre15 : own_Go p e below S0 (T4.setTop (mkF m 9 #[.val (.ref a1), .val (.ref a2)] [])) := by
    intro t kt
    refine pre3 t ?_
    refine st4.trans ?_
    show Steps p.tables e below (T4.setTop (mkF m 9 #[.val (.ref a1), .val (.ref a2)] [])) _
    exact kt
  obtain ⟨fs, hr, hrun, hended, hW, hsame⟩ := X4.leave (v := none) (fun _ => rfl)
  refine ⟨_, _, fin _ (pre15 _ ?_), hrun, hended, _, _, rfl, ?_, ⟨_, rfl⟩, hW, hsame.mono (by decide) (by decide)⟩
  · exact X4.returnOut hx Bd.returns (hb hby d2_9) hr
  · show Qini1L3 Z a1 a2 kc c0 c1 c2 wC h0 n0 _ T4.heap _
    exact ⟨vb5, kb6, rfl, N4, kc14, sz12, g8⟩

theorem d10_0 : decode method_2_code 0 = .ok (.iload_n 0, 1) := by decide +kernel
theorem d10_1 : decode method_2_code 1 = .ok (.bipush 8, 2) := by decide +kernel
theorem d10_3 : decode method_2_code 3 = .ok (.iload_n 1, 1) := by decide +kernel
theorem d10_4 : decode method_2_code 4 = .ok (.imul, 1) := by decide +kernel
theorem d10_5 : decode method_2_code 5 = .ok (.iushr, 1) := by decide +kernel
theorem d10_6 : decode method_2_code 6 = .ok (.sipush 255, 3) := by decide +kernel
theorem d10_9 : decode method_2_code 9 = .ok (.iand, 1) := by decide +kernel
theorem d10_10 : decode method_2_code 10 = .ok (.i2c, 1) := by decide +kernel
theorem d10_11 : decode method_2_code 11 = .ok (.ireturn, 1) := by decide +kernel
theorem pn_10 : plainName "com/example/horne/horne/term/IndicatorEqualsPinLaw" = true := by first | (simp [plainName, overriddenIn]; done) | decide +kernel
theorem ef_10 (m : MethodId) (x0 : Int32) (x1 : Int32) : entryFrame m #[(.int x0), (.int x1)] 2 = mkF m 0 #[.val (.int x0), .val (.int x1)] [] := by first | (simp [entryFrame, mkF, argsToLocals, Value.category]; done) | rfl
def own_ch (p1 : Int32) (p2 : Int32) : Int32 := (nar .char ((((p1.toUInt32 >>> (((8 : Int32) * p2) &&& 31).toUInt32).toInt32) &&& (255 : Int32)).toUInt32.toUInt16.toUInt32.toInt32))
def Q10 (Z : State) (p1 : Int32) (p2 : Int32) (h0 : Heap) (n0 : Nat) (v : Option Value) (h : Heap) (L : List Loc) : Prop := v = (some (.int (own_ch p1 p2))) ∧ Fr n0 L ∧ h = h0
set_option maxRecDepth 65536 in
set_option maxHeartbeats 40000000 in
theorem rm10 (l : Launch) (Z : State) (a0 : Array Value) (hw : ∀ d ∈ tables_1, d.before a0 Z = true) (ws : List Jvm.Cond) (p1 : Int32) (p2 : Int32) (h0 : Heap) (n0 : Nat) (Z0 : n0 ≤ h0.size) :
    MetFree l own_m3 (head1 (Jvm.Cond.code own_m3 method_2_code 2 (some .char) :: ws) (own_r 0 0 0 0)) (fun a U => a = #[(.int p1), (.int p2)] ∧ Z.Warmed39 U.vm ∧ U.heap = h0) (fun _ _ _ _ _ => True) (fun _ U o U' => ∃ v L, o = .returned v ∧ Q10 Z p1 p2 h0 n0 v U'.heap L ∧ FrameEnd U o U' L (own_r 0 0 0 0).cells (own_r 0 0 0 0).slots) := by
  refine MetFree.of_bodySF (plainFor_of_name pn_10) hisR ?_
  intro p e s m args below meth c s₁ Bd hml0 hP hK
  obtain ⟨rfl, hZ, hh⟩ := hP
  have hx := Bd.exec
  have hby := Bd.bytes
  have hml : c.maxLocals = 2 := hml0
  have hown0 := findClass_of_methodNamed Bd.named
  have hown : s.vm.findClass "com/example/horne/horne/term/IndicatorEqualsPinLaw" = some m.cls := hown0
  have hnm := (name_of_methodNamed Bd.named Bd.method).1
  have X0 : Stand p l e (own_r 0 0 0 0) s m #[(.int p1), (.int p2)] below meth c s₁ [] 0 0 := Stand.of_body Bd
  have e0 : s₁.heap = h0 := by rw [← hh, Bd.state]; rfl
  have N0 := Fr.nil n0
  obtain ⟨S0, hS0⟩ : ∃ z, z = s₁.setTop (entryFrame m #[(.int p1), (.int p2)] 2) := ⟨_, rfl⟩
  have pre0 : own_Go p e below S0 (s₁.setTop (mkF m 0 #[.val (.int p1), .val (.int p2)] [])) := fun t k => by rw [hS0]; exact castTop (ef_10 m p1 p2) k
  have fin : ∀ t, Steps p.tables e below S0 t → Steps p.tables e below (s₁.setTop (entryFrame m #[(.int p1), (.int p2)] 2)) t := fun t k => by rw [hS0] at k; exact k
  have pre1 : own_Go p e below S0 (s₁.setTop (mkF m 11 #[.val (.int p1), .val (.int p2)] [(.int ((((p1.toUInt32 >>> (((8 : Int32) * p2) &&& 31).toUInt32).toInt32) &&& (255 : Int32)).toUInt32.toUInt16.toUInt32.toInt32))])) := by
    intro t kt
    refine pre0 t ?_
    refine XS.iloadN X0.here hx rfl (hb hby d10_0) rfl ?_
    refine XS.bipush X0.here hx rfl (hb hby d10_1) ?_
    refine XS.iloadN X0.here hx rfl (hb hby d10_3) rfl ?_
    refine XS.imul X0.here hx rfl (hb hby d10_4) rfl ?_
    show Steps p.tables e below (s₁.setTop (mkF m 5 #[.val (.int p1), .val (.int p2)] [(.int ((8 : Int32) * p2)), (.int p1)])) _
    refine XS.iushr X0.here hx rfl (hb hby d10_5) rfl ?_
    refine XS.sipush X0.here hx rfl (hb hby d10_6) ?_
    refine XS.iand X0.here hx rfl (hb hby d10_9) rfl ?_
    refine XS.i2c X0.here hx rfl (hb hby d10_10) rfl ?_
    show Steps p.tables e below (s₁.setTop (mkF m 11 #[.val (.int p1), .val (.int p2)] [(.int ((((p1.toUInt32 >>> (((8 : Int32) * p2) &&& 31).toUInt32).toInt32) &&& (255 : Int32)).toUInt32.toUInt16.toUInt32.toInt32))])) _
    exact kt
  obtain ⟨fs, hr, hrun, hended, hW, hsame⟩ := X0.leave (v := some (.int (nar .char ((((p1.toUInt32 >>> (((8 : Int32) * p2) &&& 31).toUInt32).toInt32) &&& (255 : Int32)).toUInt32.toUInt16.toUInt32.toInt32)))) (fun h => by rw [Bd.returns] at h; cases h)
  refine ⟨_, _, fin _ (pre1 _ ?_), hrun, hended, _, _, rfl, ?_, ⟨_, rfl⟩, hW, hsame.mono (by decide) (by decide)⟩
  · exact retN X0 hx (t := .char) Bd.returns (by simp) (hb hby d10_11) hr
  · show Q10 Z p1 p2 h0 n0 _ s₁.heap _
    rw [e0]
    exact ⟨(by show some _ = some _; rw [own_ch]), N0, rfl⟩

theorem own_chR (b k : Int32) : 0 ≤ (own_ch b k).toInt ∧ (own_ch b k).toInt < 256 := by
  unfold own_ch
  generalize (b.toUInt32 >>> (((8 : Int32) * k) &&& 31).toUInt32).toInt32 = x
  have h := c_mask x 255 8 (by decide) (by decide)
  have h2 := c_i2c (x &&& 255)
  have h3 : (x &&& (255 : Int32)).toUInt32.toUInt16.toUInt32.toInt32 = x &&& 255 := own_i2c _ (by omega) (by omega)
  rw [h3, own_narChar _ (by omega) (by omega)]
  omega
theorem own_chN (b k : Int32) : nar .char (own_ch b k) = own_ch b k := own_narChar _ (own_chR b k).1 (by have := own_chR b k; omega)
theorem own_ch255 (b k : Int32) : ¬ (255 : Int32) < nar .char (own_ch b k) := by
  rw [own_chN, Int32.lt_iff_toInt_lt, show (255 : Int32).toInt = 255 from rfl]
  have := own_chR b k
  omega
def own_csOf (n b : Int32) : List Int32 := if n = 0 then [] else if n = 1 then [nar .char (own_ch b 0)] else if n = 2 then [nar .char (own_ch b 0), nar .char (own_ch b 1)] else [nar .char (own_ch b 0), nar .char (own_ch b 1), nar .char (own_ch b 2)]
theorem own_cs0 (b : Int32) : own_csOf 0 b = [] := by unfold own_csOf; rw [if_pos rfl]
theorem own_cs1 (b : Int32) : own_csOf 1 b = [nar .char (own_ch b 0)] := by unfold own_csOf; rw [if_neg (by decide), if_pos rfl]
theorem own_cs2 (b : Int32) : own_csOf 2 b = [nar .char (own_ch b 0), nar .char (own_ch b 1)] := by unfold own_csOf; rw [if_neg (by decide), if_neg (by decide), if_pos rfl]
theorem own_cs3 (b : Int32) : own_csOf 3 b = [nar .char (own_ch b 0), nar .char (own_ch b 1), nar .char (own_ch b 2)] := by unfold own_csOf; rw [if_neg (by decide), if_neg (by decide), if_neg (by decide)]
theorem own_in4 (x : Int32) : (x &&& 3) = 0 ∨ (x &&& 3) = 1 ∨ (x &&& 3) = 2 ∨ (x &&& 3) = 3 := by
  have h := c_mask x 3 2 (by decide) (by decide)
  have he : ∀ a b : Int32, a = b ↔ a.toInt = b.toInt := fun a b => Int32.toInt_inj.symm
  simp only [he, show (0 : Int32).toInt = 0 from rfl, show (1 : Int32).toInt = 1 from rfl, show (2 : Int32).toInt = 2 from rfl, show (3 : Int32).toInt = 3 from rfl]
  omega
def own_nb (x : Int32) : Int32 := nar .byte (x.toInt8.toInt32)
def own_beq : List Int32 → List Int32 → Int32
  | [], [] => 1
  | x :: xs, y :: ys => if own_nb x = own_nb y then own_beq xs ys else 0
  | _, _ => 0
theorem own_beqNe : ∀ (xs ys : List Int32), xs.length ≠ ys.length → own_beq xs ys = 0
  | [], [], h => absurd rfl h
  | [], _ :: _, _ => rfl
  | _ :: _, [], _ => rfl
  | x :: xs, y :: ys, h => by
    have ih := own_beqNe xs ys (fun q => h (by simp [q]))
    show (if own_nb x = own_nb y then own_beq xs ys else 0) = 0
    rw [ih]
    simp
theorem own_nbI (b k d j : Int32) : own_nb (nar .char (own_ch b k)) = own_nb (nar .char (own_ch d j)) ↔ own_ch b k = own_ch d j := by
  rw [own_chN, own_chN]
  constructor
  · intro q
    have h1 := own_latget _ (own_chR b k)
    have h2 := own_latget _ (own_chR d j)
    unfold own_nb at q
    rw [q] at h1
    exact h1.symm.trans h2
  · intro q; rw [q]

theorem d1_0 : decode method_3_code 0 = .ok (.iload_n 0, 1) := by decide +kernel
theorem d1_1 : decode method_3_code 1 = .ok (.ifCond .ne 10, 3) := by decide +kernel
theorem d1_4 : decode method_3_code 4 = .ok (.iconst 0, 1) := by decide +kernel
theorem d1_5 : decode method_3_code 5 = .ok (.newarray .char, 2) := by decide +kernel
theorem d1_7 : decode method_3_code 7 = .ok (.astore_n 2, 1) := by decide +kernel
theorem d1_8 : decode method_3_code 8 = .ok (.goto 79, 3) := by decide +kernel
theorem d1_87 : decode method_3_code 87 = .ok (.new 13, 3) := by decide +kernel
theorem d1_90 : decode method_3_code 90 = .ok (.dup, 1) := by decide +kernel
theorem d1_91 : decode method_3_code 91 = .ok (.aload_n 2, 1) := by decide +kernel
theorem d1_92 : decode method_3_code 92 = .ok (.invokespecial 15, 3) := by decide +kernel
theorem d1_95 : decode method_3_code 95 = .ok (.areturn, 1) := by decide +kernel
theorem pn_1 : plainName "com/example/horne/horne/term/IndicatorEqualsPinLaw" = true := by first | (simp [plainName, overriddenIn]; done) | decide +kernel
theorem pd_4 : parseMethodDescriptor "([C)V" = some ⟨[(.array .char)], none⟩ := by decide +kernel
theorem ef_str0 (m : MethodId) (x1 : Int32) : entryFrame m #[(.int 0), (.int x1)] 3 = mkF m 0 #[.val (.int 0), .val (.int x1), .unset] [] := by first | (simp [entryFrame, mkF, argsToLocals, Value.category]; done) | rfl
def Qstr0 (Z : State) (p2 : Int32) (h0 : Heap) (n0 : Nat) (v : Option Value) (h : Heap) (L : List Loc) : Prop := ∃ b : Addr, ∃ vb : Addr, ∃ kb : ClassId, v = (some (.ref b)) ∧ Fr n0 L ∧ Keep h0 h [] ∧ h0.size ≤ b ∧ own_StrL Z h b vb kb []
set_option maxRecDepth 65536 in
set_option maxHeartbeats 40000000 in
theorem rmstr0 (l : Launch) (Z : State) (a0 : Array Value) (hw : ∀ d ∈ tables_1, d.before a0 Z = true) (ws : List Jvm.Cond) (p2 : Int32) (h0 : Heap) (n0 : Nat) (Z0 : n0 ≤ h0.size) (O0 : Old Z n0 h0) :
    MetFree l own_m5 (head1 (Jvm.Cond.code own_m5 method_3_code 3 (some (.object "java/lang/String")) :: ws) (own_r 3 4 8 43)) (fun a U => a = #[(.int 0), (.int p2)] ∧ Z.Warmed39 U.vm ∧ U.heap = h0 ∧ CHv Z own_EL U.vm h0 ∧ ∀ x ∈ ([] : List Addr), Safe Z own_EL U.vm h0 x) (fun _ _ _ _ _ => True) (fun _ U o U' => ∃ v L, o = .returned v ∧ Qstr0 Z p2 h0 n0 v U'.heap L ∧ CHr Z own_EL U.vm U.heap U'.vm U'.heap ∧ ReturnedEndW U o U' L (own_r 3 4 8 43).cells (own_r 3 4 8 43).slots) := by
  refine MetFree.of_bodySF (plainFor_of_name pn_1) hisR ?_
  intro p e s m args below meth c s₁ Bd hml0 hP hK
  obtain ⟨rfl, hZ, hh, hCH, hSF⟩ := hP
  have hx := Bd.exec
  have hby := Bd.bytes
  have hml : c.maxLocals = 3 := hml0
  have hown0 := findClass_of_methodNamed Bd.named
  have hown : s.vm.findClass "com/example/horne/horne/term/IndicatorEqualsPinLaw" = some m.cls := hown0
  have hnm := (name_of_methodNamed Bd.named Bd.method).1
  have X0 : Stand p l e (own_r 3 4 8 43) s m #[(.int 0), (.int p2)] below meth c s₁ [] 0 0 := Stand.of_body Bd
  have e0 : s₁.heap = h0 := by rw [← hh, Bd.state]; rfl
  have N0 := Fr.nil n0
  obtain ⟨S0, hS0⟩ : ∃ z, z = s₁.setTop (entryFrame m #[(.int 0), (.int p2)] 3) := ⟨_, rfl⟩
  have pre0 : own_Go p e below S0 (s₁.setTop (mkF m 0 #[.val (.int 0), .val (.int p2), .unset] [])) := fun t k => by rw [hS0]; exact castTop (ef_str0 m p2) k
  have fin : ∀ t, Steps p.tables e below S0 t → Steps p.tables e below (s₁.setTop (entryFrame m #[(.int 0), (.int p2)] 3)) t := fun t k => by rw [hS0] at k; exact k
  have ch0 : CHr Z own_EL s.vm h0 s.vm h0 := CHr.refl hCH
  have kc0 : Keep h0 h0 [] := Keep.refl _ _
  have pre1 : own_Go p e below S0 (s₁.setTop (mkF m 5 #[.val (.int 0), .val (.int p2), .unset] [(.int 0)])) := by
    intro t kt
    refine pre0 t ?_
    refine XS.iloadN X0.here hx rfl (hb hby d1_0) rfl ?_
    refine XS.ifNo X0.here hx rfl (hb hby d1_1) rfl ((if0 _ _).trans (teq (by decide : (0 : Int32) = (0 : Int32))).2) ?_
    refine XS.iconst X0.here hx rfl (hb hby d1_4) ?_
    exact kt
  obtain ⟨T2, h2, k2, X2, e2, E2, A2, st2⟩ := newP X0 hx hZ (hw _ (own_w 4 rfl)) e0 (g := (mkF m 5 #[.val (.int 0), .val (.int p2), .unset] [(.int 0)])) rfl (hb hby d1_5) rfl (by decide) (cap := 0) (by decide) (by decide) (by decide) (by decide)
  obtain ⟨b2, g2⟩ : ∃ z, z = h0.size := ⟨_, rfl⟩
  rw [← g2] at A2 st2
  have ge3 : n0 ≤ b2 := Nat.le_trans Z0 (Nat.le_of_eq g2.symm)
  have sf4 : Safe Z own_EL s.vm h0 b2 := Safe.new (Nat.le_of_eq g2.symm)
  have sz5 : h0.size ≤ b2 := Nat.le_trans kc0.1 (Nat.le_of_eq g2.symm)
  have zs6 : n0 ≤ h2.size := Nat.le_trans Z0 E2.1
  have kc7 : Keep h0 h2 [] := kc0.ext E2
  have ch8 : CHr Z own_EL s.vm h0 s.vm h2 := ch0.trans (CHr.ext E2 ch0.1)
  have sf9 : Safe Z own_EL s.vm h2 b2 := Safe.ext E2 ch0.1 sf4
  have V2 : Arv Z h2 b2 k2 .char (0 : Int32) [] (.int 0) := (Arv.new A2 (by decide)).pad (pad_rep [] (.int 0) 0)
  have pre10 : own_Go p e below S0 (T2.setTop (mkF m 87 #[.val (.int 0), .val (.int p2), .val (.ref b2)] [])) := by
    intro t kt
    refine pre1 t ?_
    refine st2 _ ?_
    refine XS.astoreN X2.here hx rfl (hb hby d1_7) rfl rfl (l' := #[.val (.int 0), .val (.int p2), .val (.ref b2)]) rfl ?_
    refine XS.goto X2.here hx rfl (pc0 := 8) (pc' := 87) rfl (hb hby d1_8) (by decide) (by decide) ?_
    exact kt
  obtain ⟨T11, h11, X11, e11, E11, A11, D11, -, st11⟩ := newO X2 hx hZ hown (hw _ (own_w 5 rfl)) (hw _ (own_w 6 rfl)) (hw _ (own_w 7 rfl)) e2 (g := (mkF m 87 #[.val (.int 0), .val (.int p2), .val (.ref b2)] [])) rfl (hb hby d1_87) (by decide) (by decide)
  obtain ⟨b11, g11⟩ : ∃ z, z = h2.size := ⟨_, rfl⟩
  rw [← g11] at A11 D11 st11
  have ne12 : b2 ≠ b11 := Nat.ne_of_lt (Nat.lt_of_lt_of_le V2.lt (Nat.le_of_eq g11.symm))
  have ge13 : n0 ≤ b11 := Nat.le_trans zs6 (Nat.le_of_eq g11.symm)
  have sf14 : Safe Z own_EL s.vm h2 b11 := Safe.new (Nat.le_of_eq g11.symm)
  have sz15 : h0.size ≤ b11 := Nat.le_trans kc7.1 (Nat.le_of_eq g11.symm)
  have zs16 : n0 ≤ h11.size := Nat.le_trans zs6 E11.1
  have kc17 : Keep h0 h11 [] := kc7.ext E11
  have ch18 : CHr Z own_EL s.vm h0 s.vm h11 := ch8.trans (CHr.ext E11 ch8.1)
  have sf19 : Safe Z own_EL s.vm h11 b2 := Safe.ext E11 ch8.1 sf9
  have sf20 : Safe Z own_EL s.vm h11 b11 := Safe.ext E11 ch8.1 sf14
  have fd21 : Fld Z h11 b11 "java/lang/String" "value" "[B" .null := D11 (Or.inr (hw _ (own_w 20 rfl))) (ty := (.array .byte)) (by decide)
  have fd22 : Fld Z h11 b11 "java/lang/String" "coder" "B" (.int 0) := D11 (Or.inr (hw _ (own_w 21 rfl))) (ty := .byte) (by decide)
  have pre23 : own_Go p e below S0 (T11.setTop (mkF m 92 #[.val (.int 0), .val (.int p2), .val (.ref b2)] [(.ref b2), (.ref b11), (.ref b11)])) := by
    intro t kt
    refine pre10 t ?_
    refine st11 _ ?_
    refine XS.dup X11.here hx rfl (hb hby d1_90) rfl rfl ?_
    refine XS.aloadN X11.here hx rfl (hb hby d1_91) rfl rfl ?_
    exact kt
  have f24 : Old Z n0 h11 := ((O0.ext E2).ext E11)
  have f25 : Arv Z h11 b2 k2 .char (0 : Int32) [] (.int 0) := (V2.ext E11)
  obtain ⟨_, _, ⟨T26, L26, k26, n26⟩, -, X26, hSn26, hgn26, ⟨Lc26, hQ26, l26, y26, z26, cr26⟩, st26⟩ := X11.specialBackS hx (y := own_m7) rfl hown (mvT hZ (hw _ (own_w 8 rfl))) (mvT hZ (hw _ (own_w 9 rfl))) (mvT hZ (hw _ (own_w 10 rfl))) (by decide) (own_backH (s := s) (vm0 := s.vm) (W := 1) (rmini1L0 l Z a0 hw [] b11 b2 k2 h11 n0 zs16 f24 A11 fd21 fd22 ge13 f25) hZ (hw _ (own_w 10 rfl)) (hw _ (own_w 7 rfl)) (by decide) (by decide) (own_EW a0 Z hw) ch18.1 (allS sf20 all0) (allS A11.lt all0)) (g := (mkF m 92 #[.val (.int 0), .val (.int p2), .val (.ref b2)] [(.ref b2), (.ref b11), (.ref b11)])) rfl (by rw [hml]; rfl) (Steps.refl _) (a := b11) (argsL := [(.ref b2)]) (rest := [(.ref b11)]) (lenOf pd_4 rfl) rfl (by show 2 * 0 + _ ≤ _; exact Nat.le_of_eq rfl) (hb hby d1_92) (fun _ _ => ⟨rfl, e11, (by decide : 2 + 2 ≤ _), (by decide : 4 + 4 ≤ _)⟩)
  dsimp only [Pt.U, Pt.locs, Pt.cells, Pt.slots] at X26 l26 y26 z26 st26 hQ26 hSn26 hgn26 cr26
  subst l26 y26 z26
  have hown := own_fc hown hSn26.1
  have hZ : Z.Warmed39 (s.setVm T26.vm).vm := State.Warmed39.trans (t := s) hZ hSn26.1
  obtain ⟨vb27, kb28, rfl, Nq26, K26, g29⟩ := hQ26
  have N26 := Fr.app N0 Nq26
  have zs30 : n0 ≤ T26.heap.size := Nat.le_trans zs16 K26.1
  have kc31 : Keep h0 T26.heap [] := kc17.trans K26 (allS (Or.inr sz15) all0)
  have ch32 : CHr Z own_EL s.vm h0 T26.vm T26.heap := ch18.trans (cr26)
  have sf33 : Safe Z own_EL T26.vm T26.heap b2 := cr26.safe f25.lt sf19
  have sf34 : Safe Z own_EL T26.vm T26.heap b11 := cr26.safe A11.lt sf20
  have pre35 : own_Go p e below S0 (T26.setTop (mkF m 95 #[.val (.int 0), .val (.int p2), .val (.ref b2)] [(.ref b11)])) := by
    intro t kt
    refine pre23 t ?_
    refine st26.trans ?_
    show Steps p.tables e below (T26.setTop (mkF m 95 #[.val (.int 0), .val (.int p2), .val (.ref b2)] [(.ref b11)])) _
    exact kt
  obtain ⟨fs, hr, hrun, hended, hRW⟩ := Stand.leaveW (s := s) (vm₁ := T26.vm) X26 hSn26 (Nat.le_refl _) (v := some (.ref b11)) (fun h => by rw [Bd.returns] at h; cases h)
  refine ⟨_, _, fin _ (pre35 _ ?_), hrun, hended, _, _, rfl, ?_, (by rw [hh]; show CHr Z own_EL s.vm h0 T26.vm T26.heap; exact ch32.trans (CHv.at (s := s) (vm0 := T26.vm) X26 hZ (own_EW a0 Z hw) ch32.1)), own_wideMono hRW (by decide) (by decide)⟩
  · jvm_step X26.here [X26.here.top, hx, (hb hby d1_95), X26.method', Bd.returns, Value.isRef, FieldType.isReference]
    first | (intro acts; rw [hr _ acts rfl rfl rfl]) | rw [hr _ _ rfl rfl rfl]
    exact Steps.refl _
  · show Qstr0 Z p2 h0 n0 _ T26.heap _
    exact ⟨b11, vb27, kb28, rfl, N26, kc31, sz15, g29⟩

theorem d1_11 : decode method_3_code 11 = .ok (.iload_n 0, 1) := by decide +kernel
theorem d1_12 : decode method_3_code 12 = .ok (.iconst 1, 1) := by decide +kernel
theorem d1_13 : decode method_3_code 13 = .ok (.if_icmp .ne 18, 3) := by decide +kernel
theorem d1_16 : decode method_3_code 16 = .ok (.iconst 1, 1) := by decide +kernel
theorem d1_17 : decode method_3_code 17 = .ok (.newarray .char, 2) := by decide +kernel
theorem d1_19 : decode method_3_code 19 = .ok (.dup, 1) := by decide +kernel
theorem d1_20 : decode method_3_code 20 = .ok (.iconst 0, 1) := by decide +kernel
theorem d1_21 : decode method_3_code 21 = .ok (.iload_n 1, 1) := by decide +kernel
theorem d1_22 : decode method_3_code 22 = .ok (.iconst 0, 1) := by decide +kernel
theorem d1_23 : decode method_3_code 23 = .ok (.invokestatic 7, 3) := by decide +kernel
theorem d1_26 : decode method_3_code 26 = .ok (.castore, 1) := by decide +kernel
theorem d1_27 : decode method_3_code 27 = .ok (.astore_n 2, 1) := by decide +kernel
theorem d1_28 : decode method_3_code 28 = .ok (.goto 59, 3) := by decide +kernel
theorem pd_5 : parseMethodDescriptor "(II)C" = some ⟨[.int, .int], some .char⟩ := by decide +kernel
theorem ef_str1 (m : MethodId) (x1 : Int32) : entryFrame m #[(.int 1), (.int x1)] 3 = mkF m 0 #[.val (.int 1), .val (.int x1), .unset] [] := by first | (simp [entryFrame, mkF, argsToLocals, Value.category]; done) | rfl
def Qstr1 (Z : State) (p2 : Int32) (wC : Int32) (h0 : Heap) (n0 : Nat) (v : Option Value) (h : Heap) (L : List Loc) : Prop := ∃ b : Addr, ∃ vb : Addr, ∃ kb : ClassId, v = (some (.ref b)) ∧ Fr n0 L ∧ Keep h0 h [] ∧ h0.size ≤ b ∧ h0.size ≤ vb ∧ own_StrL Z h b vb kb [(nar .char (own_ch p2 (0 : Int32)))]
set_option maxRecDepth 65536 in
set_option maxHeartbeats 40000000 in
theorem rmstr1 (l : Launch) (Z : State) (a0 : Array Value) (hw : ∀ d ∈ tables_1, d.before a0 Z = true) (ws : List Jvm.Cond) (p2 : Int32) (wC : Int32) (h0 : Heap) (n0 : Nat) (Z0 : n0 ≤ h0.size) (O0 : Old Z n0 h0) (qC : (own_SC Z wC)) :
    MetFree l own_m5 (head1 (Jvm.Cond.code own_m5 method_3_code 3 (some (.object "java/lang/String")) :: ws) (own_r 4 3 6 66)) (fun a U => a = #[(.int 1), (.int p2)] ∧ Z.Warmed39 U.vm ∧ U.heap = h0) (fun _ _ _ _ _ => True) (fun _ U o U' => ∃ v L, o = .returned v ∧ Qstr1 Z p2 wC h0 n0 v U'.heap L ∧ FrameEnd U o U' L (own_r 4 3 6 66).cells (own_r 4 3 6 66).slots) := by
  refine MetFree.of_bodySF (plainFor_of_name pn_1) hisR ?_
  intro p e s m args below meth c s₁ Bd hml0 hP hK
  obtain ⟨rfl, hZ, hh⟩ := hP
  have hx := Bd.exec
  have hby := Bd.bytes
  have hml : c.maxLocals = 3 := hml0
  have hown0 := findClass_of_methodNamed Bd.named
  have hown : s.vm.findClass "com/example/horne/horne/term/IndicatorEqualsPinLaw" = some m.cls := hown0
  have hnm := (name_of_methodNamed Bd.named Bd.method).1
  have X0 : Stand p l e (own_r 4 3 6 66) s m #[(.int 1), (.int p2)] below meth c s₁ [] 0 0 := Stand.of_body Bd
  have e0 : s₁.heap = h0 := by rw [← hh, Bd.state]; rfl
  have N0 := Fr.nil n0
  obtain ⟨S0, hS0⟩ : ∃ z, z = s₁.setTop (entryFrame m #[(.int 1), (.int p2)] 3) := ⟨_, rfl⟩
  have pre0 : own_Go p e below S0 (s₁.setTop (mkF m 0 #[.val (.int 1), .val (.int p2), .unset] [])) := fun t k => by rw [hS0]; exact castTop (ef_str1 m p2) k
  have fin : ∀ t, Steps p.tables e below S0 t → Steps p.tables e below (s₁.setTop (entryFrame m #[(.int 1), (.int p2)] 3)) t := fun t k => by rw [hS0] at k; exact k
  have kc0 : Keep h0 h0 [] := Keep.refl _ _
  have pre1 : own_Go p e below S0 (s₁.setTop (mkF m 17 #[.val (.int 1), .val (.int p2), .unset] [(.int 1)])) := by
    intro t kt
    refine pre0 t ?_
    refine XS.iloadN X0.here hx rfl (hb hby d1_0) rfl ?_
    refine XS.ifYes X0.here hx rfl (pc0 := 1) (pc' := 11) rfl (hb hby d1_1) rfl ((if0 _ _).trans (feq (by decide : ¬ ((1 : Int32) = (0 : Int32)))).2) (by decide) (by decide) ?_
    refine XS.iloadN X0.here hx rfl (hb hby d1_11) rfl ?_
    refine XS.iconst X0.here hx rfl (hb hby d1_12) ?_
    show Steps p.tables e below (s₁.setTop (mkF m 13 #[.val (.int 1), .val (.int p2), .unset] [(.int 1), (.int 1)])) _
    refine XS.icmpNo X0.here hx rfl (hb hby d1_13) rfl (teq (by decide : (1 : Int32) = (1 : Int32))).2 ?_
    refine XS.iconst X0.here hx rfl (hb hby d1_16) ?_
    exact kt
  obtain ⟨T2, h2, k2, X2, e2, E2, A2, st2⟩ := newP X0 hx hZ (hw _ (own_w 4 rfl)) e0 (g := (mkF m 17 #[.val (.int 1), .val (.int p2), .unset] [(.int 1)])) rfl (hb hby d1_17) rfl (by decide) (cap := 1) (by decide) (by decide) (by decide) (by decide)
  obtain ⟨b2, g2⟩ : ∃ z, z = h0.size := ⟨_, rfl⟩
  rw [← g2] at A2 st2
  have ge3 : n0 ≤ b2 := Nat.le_trans Z0 (Nat.le_of_eq g2.symm)
  have sz4 : h0.size ≤ b2 := Nat.le_trans kc0.1 (Nat.le_of_eq g2.symm)
  have zs5 : n0 ≤ h2.size := Nat.le_trans Z0 E2.1
  have kc6 : Keep h0 h2 [] := kc0.ext E2
  have V2 : Arv Z h2 b2 k2 .char (1 : Int32) [(.int 0)] (.int 0) := (Arv.new A2 (by decide)).pad (pad_rep [] (.int 0) 1)
  have pre7 : own_Go p e below S0 (T2.setTop (mkF m 23 #[.val (.int 1), .val (.int p2), .unset] [(.int 0), (.int p2), (.int 0), (.ref b2), (.ref b2)])) := by
    intro t kt
    refine pre1 t ?_
    refine st2 _ ?_
    refine XS.dup X2.here hx rfl (hb hby d1_19) rfl rfl ?_
    refine XS.iconst X2.here hx rfl (hb hby d1_20) ?_
    refine XS.iloadN X2.here hx rfl (hb hby d1_21) rfl ?_
    show Steps p.tables e below (T2.setTop (mkF m 22 #[.val (.int 1), .val (.int p2), .unset] [(.int p2), (.int 0), (.ref b2), (.ref b2)])) _
    refine XS.iconst X2.here hx rfl (hb hby d1_22) ?_
    exact kt
  obtain ⟨_, _, ⟨T8, L8, k8, n8⟩, -, X8, ⟨Lc8, hQ8, l8, y8, z8⟩, st8⟩ := Jvm.LawKit.callS X2 hx (y := own_m3) hown (mvT hZ (hw _ (own_w 69 rfl))) (mvT hZ (hw _ (own_w 70 rfl))) (mvT hZ (hw _ (own_w 2 rfl))) (mvT hZ (hw _ (own_w 71 rfl))) (by decide) (backOf (W := 3) (rm10 l Z a0 hw [] p2 (0 : Int32) h2 n0 zs5 ) hZ (hw _ (own_w 71 rfl)) (hw _ (own_w 2 rfl)) (by decide) (by decide)) (g := (mkF m 23 #[.val (.int 1), .val (.int p2), .unset] [(.int 0), (.int p2), (.int 0), (.ref b2), (.ref b2)])) rfl (by rw [hml]; rfl) (argsL := [(.int p2), (.int 0)]) (rest := [(.int 0), (.ref b2), (.ref b2)]) (lenOf pd_5 rfl) rfl (by show 2 * 0 + _ ≤ _; exact Nat.le_of_eq rfl) (hb hby d1_23) (fun _ _ => ⟨rfl, e2, (by decide : 1 + 0 ≤ _), (by decide : 1 + 0 ≤ _)⟩)
  dsimp only [Pt.U, Pt.locs, Pt.cells, Pt.slots] at X8 l8 y8 z8 st8 hQ8
  subst l8 y8 z8
  obtain ⟨rfl, Nq8, eq8⟩ := hQ8
  have N8 := Fr.app N0 Nq8
  have pre9 : own_Go p e below S0 (T8.setTop (mkF m 26 #[.val (.int 1), .val (.int p2), .unset] [(.int (own_ch p2 (0 : Int32))), (.int 0), (.ref b2), (.ref b2)])) := by
    intro t kt
    refine pre7 t ?_
    refine st8 _ ?_
    show Steps p.tables e below (T8.setTop (mkF m 26 #[.val (.int 1), .val (.int p2), .unset] [(.int (own_ch p2 (0 : Int32))), (.int 0), (.ref b2), (.ref b2)])) _
    exact kt
  obtain ⟨cl10, Ar10, q10, Sz10, Ng10, Hs10, Gt10⟩ := id V2
  have hin10 : ¬ ((0 : Int32) < 0 ∨ cl10.slots.size ≤ ((0 : Int32)).toNatClampNeg) := inb_of Sz10 ⟨by decide, by decide⟩
  obtain ⟨T10, h10, X10, e10, W10, st10⟩ := stC X8 hx hZ eq8 Ar10 (j := (0 : Int32)) hin10 (g := (mkF m 26 #[.val (.int 1), .val (.int p2), .unset] [(.int (own_ch p2 (0 : Int32))), (.int 0), (.ref b2), (.ref b2)])) rfl rfl (hb hby d1_26)
  have N10 := Fr.snoc X10 N8 ge3
  have zs11 : n0 ≤ h10.size := Nat.le_trans zs5 (Keep.of_wr W10).1
  have kc12 : Keep h0 h10 [] := kc6.wr W10 (Or.inr sz4)
  have V10 : Arv Z h10 b2 k2 .char (1 : Int32) [(.int (nar .char (own_ch p2 (0 : Int32))))] (.int 0) := Arv.set Ar10 q10 Sz10 Ng10 Hs10 Gt10 (fits_nar_char _) W10 0 rfl (Nat.le_of_ble_eq_true rfl)
  have pre13 : own_Go p e below S0 (T10.setTop (mkF m 87 #[.val (.int 1), .val (.int p2), .val (.ref b2)] [])) := by
    intro t kt
    refine pre9 t ?_
    refine st10 _ ?_
    refine XS.astoreN X10.here hx rfl (hb hby d1_27) rfl rfl (l' := #[.val (.int 1), .val (.int p2), .val (.ref b2)]) rfl ?_
    refine XS.goto X10.here hx rfl (pc0 := 28) (pc' := 87) rfl (hb hby d1_28) (by decide) (by decide) ?_
    exact kt
  obtain ⟨T14, h14, X14, e14, E14, A14, D14, -, st14⟩ := newO X10 hx hZ hown (hw _ (own_w 5 rfl)) (hw _ (own_w 6 rfl)) (hw _ (own_w 7 rfl)) e10 (g := (mkF m 87 #[.val (.int 1), .val (.int p2), .val (.ref b2)] [])) rfl (hb hby d1_87) (by decide) (by decide)
  obtain ⟨b14, g14⟩ : ∃ z, z = h10.size := ⟨_, rfl⟩
  rw [← g14] at A14 D14 st14
  have ne15 : b2 ≠ b14 := Nat.ne_of_lt (Nat.lt_of_lt_of_le V10.lt (Nat.le_of_eq g14.symm))
  have ge16 : n0 ≤ b14 := Nat.le_trans zs11 (Nat.le_of_eq g14.symm)
  have sz17 : h0.size ≤ b14 := Nat.le_trans kc12.1 (Nat.le_of_eq g14.symm)
  have zs18 : n0 ≤ h14.size := Nat.le_trans zs11 E14.1
  have kc19 : Keep h0 h14 [] := kc12.ext E14
  have fd20 : Fld Z h14 b14 "java/lang/String" "value" "[B" .null := D14 (Or.inr (hw _ (own_w 20 rfl))) (ty := (.array .byte)) (by decide)
  have fd21 : Fld Z h14 b14 "java/lang/String" "coder" "B" (.int 0) := D14 (Or.inr (hw _ (own_w 21 rfl))) (ty := .byte) (by decide)
  have pre22 : own_Go p e below S0 (T14.setTop (mkF m 92 #[.val (.int 1), .val (.int p2), .val (.ref b2)] [(.ref b2), (.ref b14), (.ref b14)])) := by
    intro t kt
    refine pre13 t ?_
    refine st14 _ ?_
    refine XS.dup X14.here hx rfl (hb hby d1_90) rfl rfl ?_
    refine XS.aloadN X14.here hx rfl (hb hby d1_91) rfl rfl ?_
    exact kt
  have f23 : Old Z n0 h14 := (((O0.ext E2).wr W10 ge3).ext E14)
  have f24 : Arv Z h14 b2 k2 .char (1 : Int32) [(.int (nar .char (own_ch p2 (0 : Int32))))] (.int 0) := (V10.ext E14)
  obtain ⟨_, _, ⟨T25, L25, k25, n25⟩, -, X25, ⟨Lc25, hQ25, l25, y25, z25⟩, st25⟩ := X14.specialBack hx (y := own_m7) rfl hown (mvT hZ (hw _ (own_w 8 rfl))) (mvT hZ (hw _ (own_w 9 rfl))) (mvT hZ (hw _ (own_w 10 rfl))) (by decide) (backOf (W := 1) (rmini1L1 l Z a0 hw [] b14 b2 k2 (nar .char (own_ch p2 (0 : Int32))) wC h14 n0 zs18 f23 qC A14 fd20 fd21 ge16 f24 (own_ch255 _ _)) hZ (hw _ (own_w 10 rfl)) (hw _ (own_w 7 rfl)) (by decide) (by decide)) (g := (mkF m 92 #[.val (.int 1), .val (.int p2), .val (.ref b2)] [(.ref b2), (.ref b14), (.ref b14)])) rfl (by rw [hml]; rfl) (Steps.refl _) (a := b14) (argsL := [(.ref b2)]) (rest := [(.ref b14)]) (lenOf pd_4 rfl) rfl (by show 2 * 0 + _ ≤ _; exact Nat.le_of_eq rfl) (hb hby d1_92) (fun _ _ => ⟨rfl, e14, (by decide : 2 + 1 ≤ _), (by decide : 5 + 1 ≤ _)⟩)
  dsimp only [Pt.U, Pt.locs, Pt.cells, Pt.slots] at X25 l25 y25 z25 st25 hQ25
  subst l25 y25 z25
  obtain ⟨vb26, kb27, rfl, Nq25, K25, g28, g29⟩ := hQ25
  have N25 := Fr.app N10 Nq25
  have ne30 : b2 ≠ vb26 := Nat.ne_of_lt (Nat.lt_of_lt_of_le f24.lt g28)
  have ne31 : b14 ≠ vb26 := Nat.ne_of_lt (Nat.lt_of_lt_of_le A14.lt g28)
  have ge32 : n0 ≤ vb26 := Nat.le_trans zs18 g28
  have sz33 : h0.size ≤ vb26 := Nat.le_trans kc19.1 g28
  have zs34 : n0 ≤ T25.heap.size := Nat.le_trans zs18 K25.1
  have kc35 : Keep h0 T25.heap [] := kc19.trans K25 (allS (Or.inr sz17) all0)
  have pre36 : own_Go p e below S0 (T25.setTop (mkF m 95 #[.val (.int 1), .val (.int p2), .val (.ref b2)] [(.ref b14)])) := by
    intro t kt
    refine pre22 t ?_
    refine st25.trans ?_
    show Steps p.tables e below (T25.setTop (mkF m 95 #[.val (.int 1), .val (.int p2), .val (.ref b2)] [(.ref b14)])) _
    exact kt
  obtain ⟨fs, hr, hrun, hended, hW, hsame⟩ := X25.leave (v := some (.ref b14)) (fun h => by rw [Bd.returns] at h; cases h)
  refine ⟨_, _, fin _ (pre36 _ ?_), hrun, hended, _, _, rfl, ?_, ⟨_, rfl⟩, hW, hsame.mono (by decide) (by decide)⟩
  · jvm_step X25.here [X25.here.top, hx, (hb hby d1_95), X25.method', Bd.returns, Value.isRef, FieldType.isReference]
    first | (intro acts; rw [hr _ acts rfl rfl rfl]) | rw [hr _ _ rfl rfl rfl]
    exact Steps.refl _
  · show Qstr1 Z p2 wC h0 n0 _ T25.heap _
    exact ⟨b14, vb26, kb27, rfl, N25, kc35, sz17, sz33, g29⟩

theorem d1_31 : decode method_3_code 31 = .ok (.iload_n 0, 1) := by decide +kernel
theorem d1_32 : decode method_3_code 32 = .ok (.iconst 2, 1) := by decide +kernel
theorem d1_33 : decode method_3_code 33 = .ok (.if_icmp .ne 26, 3) := by decide +kernel
theorem d1_36 : decode method_3_code 36 = .ok (.iconst 2, 1) := by decide +kernel
theorem d1_37 : decode method_3_code 37 = .ok (.newarray .char, 2) := by decide +kernel
theorem d1_39 : decode method_3_code 39 = .ok (.dup, 1) := by decide +kernel
theorem d1_40 : decode method_3_code 40 = .ok (.iconst 0, 1) := by decide +kernel
theorem d1_41 : decode method_3_code 41 = .ok (.iload_n 1, 1) := by decide +kernel
theorem d1_42 : decode method_3_code 42 = .ok (.iconst 0, 1) := by decide +kernel
theorem d1_43 : decode method_3_code 43 = .ok (.invokestatic 7, 3) := by decide +kernel
theorem d1_46 : decode method_3_code 46 = .ok (.castore, 1) := by decide +kernel
theorem d1_47 : decode method_3_code 47 = .ok (.dup, 1) := by decide +kernel
theorem d1_48 : decode method_3_code 48 = .ok (.iconst 1, 1) := by decide +kernel
theorem d1_49 : decode method_3_code 49 = .ok (.iload_n 1, 1) := by decide +kernel
theorem d1_50 : decode method_3_code 50 = .ok (.iconst 1, 1) := by decide +kernel
theorem d1_51 : decode method_3_code 51 = .ok (.invokestatic 7, 3) := by decide +kernel
theorem d1_54 : decode method_3_code 54 = .ok (.castore, 1) := by decide +kernel
theorem d1_55 : decode method_3_code 55 = .ok (.astore_n 2, 1) := by decide +kernel
theorem d1_56 : decode method_3_code 56 = .ok (.goto 31, 3) := by decide +kernel
theorem ef_str2 (m : MethodId) (x1 : Int32) : entryFrame m #[(.int 2), (.int x1)] 3 = mkF m 0 #[.val (.int 2), .val (.int x1), .unset] [] := by first | (simp [entryFrame, mkF, argsToLocals, Value.category]; done) | rfl
def Qstr2 (Z : State) (p2 : Int32) (wC : Int32) (h0 : Heap) (n0 : Nat) (v : Option Value) (h : Heap) (L : List Loc) : Prop := ∃ b : Addr, ∃ vb : Addr, ∃ kb : ClassId, v = (some (.ref b)) ∧ Fr n0 L ∧ Keep h0 h [] ∧ h0.size ≤ b ∧ h0.size ≤ vb ∧ own_StrL Z h b vb kb [(nar .char (own_ch p2 (0 : Int32))), (nar .char (own_ch p2 (1 : Int32)))]
set_option maxRecDepth 65536 in
set_option maxHeartbeats 40000000 in
theorem rmstr2 (l : Launch) (Z : State) (a0 : Array Value) (hw : ∀ d ∈ tables_1, d.before a0 Z = true) (ws : List Jvm.Cond) (p2 : Int32) (wC : Int32) (h0 : Heap) (n0 : Nat) (Z0 : n0 ≤ h0.size) (O0 : Old Z n0 h0) (qC : (own_SC Z wC)) :
    MetFree l own_m5 (head1 (Jvm.Cond.code own_m5 method_3_code 3 (some (.object "java/lang/String")) :: ws) (own_r 4 3 8 66)) (fun a U => a = #[(.int 2), (.int p2)] ∧ Z.Warmed39 U.vm ∧ U.heap = h0) (fun _ _ _ _ _ => True) (fun _ U o U' => ∃ v L, o = .returned v ∧ Qstr2 Z p2 wC h0 n0 v U'.heap L ∧ FrameEnd U o U' L (own_r 4 3 8 66).cells (own_r 4 3 8 66).slots) := by
  refine MetFree.of_bodySF (plainFor_of_name pn_1) hisR ?_
  intro p e s m args below meth c s₁ Bd hml0 hP hK
  obtain ⟨rfl, hZ, hh⟩ := hP
  have hx := Bd.exec
  have hby := Bd.bytes
  have hml : c.maxLocals = 3 := hml0
  have hown0 := findClass_of_methodNamed Bd.named
  have hown : s.vm.findClass "com/example/horne/horne/term/IndicatorEqualsPinLaw" = some m.cls := hown0
  have hnm := (name_of_methodNamed Bd.named Bd.method).1
  have X0 : Stand p l e (own_r 4 3 8 66) s m #[(.int 2), (.int p2)] below meth c s₁ [] 0 0 := Stand.of_body Bd
  have e0 : s₁.heap = h0 := by rw [← hh, Bd.state]; rfl
  have N0 := Fr.nil n0
  obtain ⟨S0, hS0⟩ : ∃ z, z = s₁.setTop (entryFrame m #[(.int 2), (.int p2)] 3) := ⟨_, rfl⟩
  have pre0 : own_Go p e below S0 (s₁.setTop (mkF m 0 #[.val (.int 2), .val (.int p2), .unset] [])) := fun t k => by rw [hS0]; exact castTop (ef_str2 m p2) k
  have fin : ∀ t, Steps p.tables e below S0 t → Steps p.tables e below (s₁.setTop (entryFrame m #[(.int 2), (.int p2)] 3)) t := fun t k => by rw [hS0] at k; exact k
  have kc0 : Keep h0 h0 [] := Keep.refl _ _
  have pre1 : own_Go p e below S0 (s₁.setTop (mkF m 37 #[.val (.int 2), .val (.int p2), .unset] [(.int 2)])) := by
    intro t kt
    refine pre0 t ?_
    refine XS.iloadN X0.here hx rfl (hb hby d1_0) rfl ?_
    refine XS.ifYes X0.here hx rfl (pc0 := 1) (pc' := 11) rfl (hb hby d1_1) rfl ((if0 _ _).trans (feq (by decide : ¬ ((2 : Int32) = (0 : Int32)))).2) (by decide) (by decide) ?_
    refine XS.iloadN X0.here hx rfl (hb hby d1_11) rfl ?_
    refine XS.iconst X0.here hx rfl (hb hby d1_12) ?_
    show Steps p.tables e below (s₁.setTop (mkF m 13 #[.val (.int 2), .val (.int p2), .unset] [(.int 1), (.int 2)])) _
    refine XS.icmpYes X0.here hx rfl (pc0 := 13) (pc' := 31) rfl (hb hby d1_13) rfl (feq (by decide : ¬ ((2 : Int32) = (1 : Int32)))).2 (by decide) (by decide) ?_
    refine XS.iloadN X0.here hx rfl (hb hby d1_31) rfl ?_
    refine XS.iconst X0.here hx rfl (hb hby d1_32) ?_
    refine XS.icmpNo X0.here hx rfl (hb hby d1_33) rfl (teq (by decide : (2 : Int32) = (2 : Int32))).2 ?_
    show Steps p.tables e below (s₁.setTop (mkF m 36 #[.val (.int 2), .val (.int p2), .unset] [])) _
    refine XS.iconst X0.here hx rfl (hb hby d1_36) ?_
    exact kt
  obtain ⟨T2, h2, k2, X2, e2, E2, A2, st2⟩ := newP X0 hx hZ (hw _ (own_w 4 rfl)) e0 (g := (mkF m 37 #[.val (.int 2), .val (.int p2), .unset] [(.int 2)])) rfl (hb hby d1_37) rfl (by decide) (cap := 2) (by decide) (by decide) (by decide) (by decide)
  obtain ⟨b2, g2⟩ : ∃ z, z = h0.size := ⟨_, rfl⟩
  rw [← g2] at A2 st2
  have ge3 : n0 ≤ b2 := Nat.le_trans Z0 (Nat.le_of_eq g2.symm)
  have sz4 : h0.size ≤ b2 := Nat.le_trans kc0.1 (Nat.le_of_eq g2.symm)
  have zs5 : n0 ≤ h2.size := Nat.le_trans Z0 E2.1
  have kc6 : Keep h0 h2 [] := kc0.ext E2
  have V2 : Arv Z h2 b2 k2 .char (2 : Int32) [(.int 0), (.int 0)] (.int 0) := (Arv.new A2 (by decide)).pad (pad_rep [] (.int 0) 2)
  have pre7 : own_Go p e below S0 (T2.setTop (mkF m 43 #[.val (.int 2), .val (.int p2), .unset] [(.int 0), (.int p2), (.int 0), (.ref b2), (.ref b2)])) := by
    intro t kt
    refine pre1 t ?_
    refine st2 _ ?_
    refine XS.dup X2.here hx rfl (hb hby d1_39) rfl rfl ?_
    refine XS.iconst X2.here hx rfl (hb hby d1_40) ?_
    refine XS.iloadN X2.here hx rfl (hb hby d1_41) rfl ?_
    show Steps p.tables e below (T2.setTop (mkF m 42 #[.val (.int 2), .val (.int p2), .unset] [(.int p2), (.int 0), (.ref b2), (.ref b2)])) _
    refine XS.iconst X2.here hx rfl (hb hby d1_42) ?_
    exact kt
  obtain ⟨_, _, ⟨T8, L8, k8, n8⟩, -, X8, ⟨Lc8, hQ8, l8, y8, z8⟩, st8⟩ := Jvm.LawKit.callS X2 hx (y := own_m3) hown (mvT hZ (hw _ (own_w 69 rfl))) (mvT hZ (hw _ (own_w 70 rfl))) (mvT hZ (hw _ (own_w 2 rfl))) (mvT hZ (hw _ (own_w 71 rfl))) (by decide) (backOf (W := 3) (rm10 l Z a0 hw [] p2 (0 : Int32) h2 n0 zs5 ) hZ (hw _ (own_w 71 rfl)) (hw _ (own_w 2 rfl)) (by decide) (by decide)) (g := (mkF m 43 #[.val (.int 2), .val (.int p2), .unset] [(.int 0), (.int p2), (.int 0), (.ref b2), (.ref b2)])) rfl (by rw [hml]; rfl) (argsL := [(.int p2), (.int 0)]) (rest := [(.int 0), (.ref b2), (.ref b2)]) (lenOf pd_5 rfl) rfl (by show 2 * 0 + _ ≤ _; exact Nat.le_of_eq rfl) (hb hby d1_43) (fun _ _ => ⟨rfl, e2, (by decide : 1 + 0 ≤ _), (by decide : 2 + 0 ≤ _)⟩)
  dsimp only [Pt.U, Pt.locs, Pt.cells, Pt.slots] at X8 l8 y8 z8 st8 hQ8
  subst l8 y8 z8
  obtain ⟨rfl, Nq8, eq8⟩ := hQ8
  have N8 := Fr.app N0 Nq8
  have pre9 : own_Go p e below S0 (T8.setTop (mkF m 46 #[.val (.int 2), .val (.int p2), .unset] [(.int (own_ch p2 (0 : Int32))), (.int 0), (.ref b2), (.ref b2)])) := by
    intro t kt
    refine pre7 t ?_
    refine st8 _ ?_
    show Steps p.tables e below (T8.setTop (mkF m 46 #[.val (.int 2), .val (.int p2), .unset] [(.int (own_ch p2 (0 : Int32))), (.int 0), (.ref b2), (.ref b2)])) _
    exact kt
  obtain ⟨cl10, Ar10, q10, Sz10, Ng10, Hs10, Gt10⟩ := id V2
  have hin10 : ¬ ((0 : Int32) < 0 ∨ cl10.slots.size ≤ ((0 : Int32)).toNatClampNeg) := inb_of Sz10 ⟨by decide, by decide⟩
  obtain ⟨T10, h10, X10, e10, W10, st10⟩ := stC X8 hx hZ eq8 Ar10 (j := (0 : Int32)) hin10 (g := (mkF m 46 #[.val (.int 2), .val (.int p2), .unset] [(.int (own_ch p2 (0 : Int32))), (.int 0), (.ref b2), (.ref b2)])) rfl rfl (hb hby d1_46)
  have N10 := Fr.snoc X10 N8 ge3
  have zs11 : n0 ≤ h10.size := Nat.le_trans zs5 (Keep.of_wr W10).1
  have kc12 : Keep h0 h10 [] := kc6.wr W10 (Or.inr sz4)
  have V10 : Arv Z h10 b2 k2 .char (2 : Int32) [(.int (nar .char (own_ch p2 (0 : Int32)))), (.int 0)] (.int 0) := Arv.set Ar10 q10 Sz10 Ng10 Hs10 Gt10 (fits_nar_char _) W10 0 rfl (Nat.le_of_ble_eq_true rfl)
  have pre13 : own_Go p e below S0 (T10.setTop (mkF m 51 #[.val (.int 2), .val (.int p2), .unset] [(.int 1), (.int p2), (.int 1), (.ref b2), (.ref b2)])) := by
    intro t kt
    refine pre9 t ?_
    refine st10 _ ?_
    refine XS.dup X10.here hx rfl (hb hby d1_47) rfl rfl ?_
    refine XS.iconst X10.here hx rfl (hb hby d1_48) ?_
    refine XS.iloadN X10.here hx rfl (hb hby d1_49) rfl ?_
    show Steps p.tables e below (T10.setTop (mkF m 50 #[.val (.int 2), .val (.int p2), .unset] [(.int p2), (.int 1), (.ref b2), (.ref b2)])) _
    refine XS.iconst X10.here hx rfl (hb hby d1_50) ?_
    exact kt
  obtain ⟨_, _, ⟨T14, L14, k14, n14⟩, -, X14, ⟨Lc14, hQ14, l14, y14, z14⟩, st14⟩ := Jvm.LawKit.callS X10 hx (y := own_m3) hown (mvT hZ (hw _ (own_w 69 rfl))) (mvT hZ (hw _ (own_w 70 rfl))) (mvT hZ (hw _ (own_w 2 rfl))) (mvT hZ (hw _ (own_w 71 rfl))) (by decide) (backOf (W := 3) (rm10 l Z a0 hw [] p2 (1 : Int32) h10 n0 zs11 ) hZ (hw _ (own_w 71 rfl)) (hw _ (own_w 2 rfl)) (by decide) (by decide)) (g := (mkF m 51 #[.val (.int 2), .val (.int p2), .unset] [(.int 1), (.int p2), (.int 1), (.ref b2), (.ref b2)])) rfl (by rw [hml]; rfl) (argsL := [(.int p2), (.int 1)]) (rest := [(.int 1), (.ref b2), (.ref b2)]) (lenOf pd_5 rfl) rfl (by show 2 * 0 + _ ≤ _; exact Nat.le_of_eq rfl) (hb hby d1_51) (fun _ _ => ⟨rfl, e10, (by decide : 1 + 0 ≤ _), (by decide : 2 + 0 ≤ _)⟩)
  dsimp only [Pt.U, Pt.locs, Pt.cells, Pt.slots] at X14 l14 y14 z14 st14 hQ14
  subst l14 y14 z14
  obtain ⟨rfl, Nq14, eq14⟩ := hQ14
  have N14 := Fr.app N10 Nq14
  have pre15 : own_Go p e below S0 (T14.setTop (mkF m 54 #[.val (.int 2), .val (.int p2), .unset] [(.int (own_ch p2 (1 : Int32))), (.int 1), (.ref b2), (.ref b2)])) := by
    intro t kt
    refine pre13 t ?_
    refine st14 _ ?_
    show Steps p.tables e below (T14.setTop (mkF m 54 #[.val (.int 2), .val (.int p2), .unset] [(.int (own_ch p2 (1 : Int32))), (.int 1), (.ref b2), (.ref b2)])) _
    exact kt
  obtain ⟨cl16, Ar16, q16, Sz16, Ng16, Hs16, Gt16⟩ := id V10
  have hin16 : ¬ ((1 : Int32) < 0 ∨ cl16.slots.size ≤ ((1 : Int32)).toNatClampNeg) := inb_of Sz16 ⟨by decide, by decide⟩
  obtain ⟨T16, h16, X16, e16, W16, st16⟩ := stC X14 hx hZ eq14 Ar16 (j := (1 : Int32)) hin16 (g := (mkF m 54 #[.val (.int 2), .val (.int p2), .unset] [(.int (own_ch p2 (1 : Int32))), (.int 1), (.ref b2), (.ref b2)])) rfl rfl (hb hby d1_54)
  have N16 := Fr.snoc X16 N14 ge3
  have zs17 : n0 ≤ h16.size := Nat.le_trans zs11 (Keep.of_wr W16).1
  have kc18 : Keep h0 h16 [] := kc12.wr W16 (Or.inr sz4)
  have V16 : Arv Z h16 b2 k2 .char (2 : Int32) [(.int (nar .char (own_ch p2 (0 : Int32)))), (.int (nar .char (own_ch p2 (1 : Int32))))] (.int 0) := Arv.set Ar16 q16 Sz16 Ng16 Hs16 Gt16 (fits_nar_char _) W16 1 rfl (Nat.le_of_ble_eq_true rfl)
  have pre19 : own_Go p e below S0 (T16.setTop (mkF m 87 #[.val (.int 2), .val (.int p2), .val (.ref b2)] [])) := by
    intro t kt
    refine pre15 t ?_
    refine st16 _ ?_
    refine XS.astoreN X16.here hx rfl (hb hby d1_55) rfl rfl (l' := #[.val (.int 2), .val (.int p2), .val (.ref b2)]) rfl ?_
    refine XS.goto X16.here hx rfl (pc0 := 56) (pc' := 87) rfl (hb hby d1_56) (by decide) (by decide) ?_
    exact kt
  obtain ⟨T20, h20, X20, e20, E20, A20, D20, -, st20⟩ := newO X16 hx hZ hown (hw _ (own_w 5 rfl)) (hw _ (own_w 6 rfl)) (hw _ (own_w 7 rfl)) e16 (g := (mkF m 87 #[.val (.int 2), .val (.int p2), .val (.ref b2)] [])) rfl (hb hby d1_87) (by decide) (by decide)
  obtain ⟨b20, g20⟩ : ∃ z, z = h16.size := ⟨_, rfl⟩
  rw [← g20] at A20 D20 st20
  have ne21 : b2 ≠ b20 := Nat.ne_of_lt (Nat.lt_of_lt_of_le V16.lt (Nat.le_of_eq g20.symm))
  have ge22 : n0 ≤ b20 := Nat.le_trans zs17 (Nat.le_of_eq g20.symm)
  have sz23 : h0.size ≤ b20 := Nat.le_trans kc18.1 (Nat.le_of_eq g20.symm)
  have zs24 : n0 ≤ h20.size := Nat.le_trans zs17 E20.1
  have kc25 : Keep h0 h20 [] := kc18.ext E20
  have fd26 : Fld Z h20 b20 "java/lang/String" "value" "[B" .null := D20 (Or.inr (hw _ (own_w 20 rfl))) (ty := (.array .byte)) (by decide)
  have fd27 : Fld Z h20 b20 "java/lang/String" "coder" "B" (.int 0) := D20 (Or.inr (hw _ (own_w 21 rfl))) (ty := .byte) (by decide)
  have pre28 : own_Go p e below S0 (T20.setTop (mkF m 92 #[.val (.int 2), .val (.int p2), .val (.ref b2)] [(.ref b2), (.ref b20), (.ref b20)])) := by
    intro t kt
    refine pre19 t ?_
    refine st20 _ ?_
    refine XS.dup X20.here hx rfl (hb hby d1_90) rfl rfl ?_
    refine XS.aloadN X20.here hx rfl (hb hby d1_91) rfl rfl ?_
    exact kt
  have f29 := (((O0.ext E2).wr W10 ge3).wr W16 ge3)
  have f30 : Old Z n0 h20 := (f29.ext E20)
  have f31 : Arv Z h20 b2 k2 .char (2 : Int32) [(.int (nar .char (own_ch p2 (0 : Int32)))), (.int (nar .char (own_ch p2 (1 : Int32))))] (.int 0) := (V16.ext E20)
  obtain ⟨_, _, ⟨T32, L32, k32, n32⟩, -, X32, ⟨Lc32, hQ32, l32, y32, z32⟩, st32⟩ := X20.specialBack hx (y := own_m7) rfl hown (mvT hZ (hw _ (own_w 8 rfl))) (mvT hZ (hw _ (own_w 9 rfl))) (mvT hZ (hw _ (own_w 10 rfl))) (by decide) (backOf (W := 1) (rmini1L2 l Z a0 hw [] b20 b2 k2 (nar .char (own_ch p2 (0 : Int32))) (nar .char (own_ch p2 (1 : Int32))) wC h20 n0 zs24 f30 qC A20 fd26 fd27 ge22 f31 (own_ch255 _ _) (own_ch255 _ _)) hZ (hw _ (own_w 10 rfl)) (hw _ (own_w 7 rfl)) (by decide) (by decide)) (g := (mkF m 92 #[.val (.int 2), .val (.int p2), .val (.ref b2)] [(.ref b2), (.ref b20), (.ref b20)])) rfl (by rw [hml]; rfl) (Steps.refl _) (a := b20) (argsL := [(.ref b2)]) (rest := [(.ref b20)]) (lenOf pd_4 rfl) rfl (by show 2 * 0 + _ ≤ _; exact Nat.le_of_eq rfl) (hb hby d1_92) (fun _ _ => ⟨rfl, e20, (by decide : 2 + 1 ≤ _), (by decide : 6 + 2 ≤ _)⟩)
  dsimp only [Pt.U, Pt.locs, Pt.cells, Pt.slots] at X32 l32 y32 z32 st32 hQ32
  subst l32 y32 z32
  obtain ⟨vb33, kb34, rfl, Nq32, K32, g35, g36⟩ := hQ32
  have N32 := Fr.app N16 Nq32
  have ne37 : b2 ≠ vb33 := Nat.ne_of_lt (Nat.lt_of_lt_of_le f31.lt g35)
  have ne38 : b20 ≠ vb33 := Nat.ne_of_lt (Nat.lt_of_lt_of_le A20.lt g35)
  have ge39 : n0 ≤ vb33 := Nat.le_trans zs24 g35
  have sz40 : h0.size ≤ vb33 := Nat.le_trans kc25.1 g35
  have zs41 : n0 ≤ T32.heap.size := Nat.le_trans zs24 K32.1
  have kc42 : Keep h0 T32.heap [] := kc25.trans K32 (allS (Or.inr sz23) all0)
  have pre43 : own_Go p e below S0 (T32.setTop (mkF m 95 #[.val (.int 2), .val (.int p2), .val (.ref b2)] [(.ref b20)])) := by
    intro t kt
    refine pre28 t ?_
    refine st32.trans ?_
    show Steps p.tables e below (T32.setTop (mkF m 95 #[.val (.int 2), .val (.int p2), .val (.ref b2)] [(.ref b20)])) _
    exact kt
  obtain ⟨fs, hr, hrun, hended, hW, hsame⟩ := X32.leave (v := some (.ref b20)) (fun h => by rw [Bd.returns] at h; cases h)
  refine ⟨_, _, fin _ (pre43 _ ?_), hrun, hended, _, _, rfl, ?_, ⟨_, rfl⟩, hW, hsame.mono (by decide) (by decide)⟩
  · jvm_step X32.here [X32.here.top, hx, (hb hby d1_95), X32.method', Bd.returns, Value.isRef, FieldType.isReference]
    first | (intro acts; rw [hr _ acts rfl rfl rfl]) | rw [hr _ _ rfl rfl rfl]
    exact Steps.refl _
  · show Qstr2 Z p2 wC h0 n0 _ T32.heap _
    exact ⟨b20, vb33, kb34, rfl, N32, kc42, sz23, sz40, g36⟩

theorem d1_59 : decode method_3_code 59 = .ok (.iconst 3, 1) := by decide +kernel
theorem d1_60 : decode method_3_code 60 = .ok (.newarray .char, 2) := by decide +kernel
theorem d1_62 : decode method_3_code 62 = .ok (.dup, 1) := by decide +kernel
theorem d1_63 : decode method_3_code 63 = .ok (.iconst 0, 1) := by decide +kernel
theorem d1_64 : decode method_3_code 64 = .ok (.iload_n 1, 1) := by decide +kernel
theorem d1_65 : decode method_3_code 65 = .ok (.iconst 0, 1) := by decide +kernel
theorem d1_66 : decode method_3_code 66 = .ok (.invokestatic 7, 3) := by decide +kernel
theorem d1_69 : decode method_3_code 69 = .ok (.castore, 1) := by decide +kernel
theorem d1_70 : decode method_3_code 70 = .ok (.dup, 1) := by decide +kernel
theorem d1_71 : decode method_3_code 71 = .ok (.iconst 1, 1) := by decide +kernel
theorem d1_72 : decode method_3_code 72 = .ok (.iload_n 1, 1) := by decide +kernel
theorem d1_73 : decode method_3_code 73 = .ok (.iconst 1, 1) := by decide +kernel
theorem d1_74 : decode method_3_code 74 = .ok (.invokestatic 7, 3) := by decide +kernel
theorem d1_77 : decode method_3_code 77 = .ok (.castore, 1) := by decide +kernel
theorem d1_78 : decode method_3_code 78 = .ok (.dup, 1) := by decide +kernel
theorem d1_79 : decode method_3_code 79 = .ok (.iconst 2, 1) := by decide +kernel
theorem d1_80 : decode method_3_code 80 = .ok (.iload_n 1, 1) := by decide +kernel
theorem d1_81 : decode method_3_code 81 = .ok (.iconst 2, 1) := by decide +kernel
theorem d1_82 : decode method_3_code 82 = .ok (.invokestatic 7, 3) := by decide +kernel
theorem d1_85 : decode method_3_code 85 = .ok (.castore, 1) := by decide +kernel
theorem d1_86 : decode method_3_code 86 = .ok (.astore_n 2, 1) := by decide +kernel
theorem ef_str3 (m : MethodId) (x1 : Int32) : entryFrame m #[(.int 3), (.int x1)] 3 = mkF m 0 #[.val (.int 3), .val (.int x1), .unset] [] := by first | (simp [entryFrame, mkF, argsToLocals, Value.category]; done) | rfl
def Qstr3 (Z : State) (p2 : Int32) (wC : Int32) (h0 : Heap) (n0 : Nat) (v : Option Value) (h : Heap) (L : List Loc) : Prop := ∃ b : Addr, ∃ vb : Addr, ∃ kb : ClassId, v = (some (.ref b)) ∧ Fr n0 L ∧ Keep h0 h [] ∧ h0.size ≤ b ∧ h0.size ≤ vb ∧ own_StrL Z h b vb kb [(nar .char (own_ch p2 (0 : Int32))), (nar .char (own_ch p2 (1 : Int32))), (nar .char (own_ch p2 (2 : Int32)))]
set_option maxRecDepth 65536 in
set_option maxHeartbeats 40000000 in
theorem rmstr3 (l : Launch) (Z : State) (a0 : Array Value) (hw : ∀ d ∈ tables_1, d.before a0 Z = true) (ws : List Jvm.Cond) (p2 : Int32) (wC : Int32) (h0 : Heap) (n0 : Nat) (Z0 : n0 ≤ h0.size) (O0 : Old Z n0 h0) (qC : (own_SC Z wC)) :
    MetFree l own_m5 (head1 (Jvm.Cond.code own_m5 method_3_code 3 (some (.object "java/lang/String")) :: ws) (own_r 4 3 10 66)) (fun a U => a = #[(.int 3), (.int p2)] ∧ Z.Warmed39 U.vm ∧ U.heap = h0) (fun _ _ _ _ _ => True) (fun _ U o U' => ∃ v L, o = .returned v ∧ Qstr3 Z p2 wC h0 n0 v U'.heap L ∧ FrameEnd U o U' L (own_r 4 3 10 66).cells (own_r 4 3 10 66).slots) := by
  refine MetFree.of_bodySF (plainFor_of_name pn_1) hisR ?_
  intro p e s m args below meth c s₁ Bd hml0 hP hK
  obtain ⟨rfl, hZ, hh⟩ := hP
  have hx := Bd.exec
  have hby := Bd.bytes
  have hml : c.maxLocals = 3 := hml0
  have hown0 := findClass_of_methodNamed Bd.named
  have hown : s.vm.findClass "com/example/horne/horne/term/IndicatorEqualsPinLaw" = some m.cls := hown0
  have hnm := (name_of_methodNamed Bd.named Bd.method).1
  have X0 : Stand p l e (own_r 4 3 10 66) s m #[(.int 3), (.int p2)] below meth c s₁ [] 0 0 := Stand.of_body Bd
  have e0 : s₁.heap = h0 := by rw [← hh, Bd.state]; rfl
  have N0 := Fr.nil n0
  obtain ⟨S0, hS0⟩ : ∃ z, z = s₁.setTop (entryFrame m #[(.int 3), (.int p2)] 3) := ⟨_, rfl⟩
  have pre0 : own_Go p e below S0 (s₁.setTop (mkF m 0 #[.val (.int 3), .val (.int p2), .unset] [])) := fun t k => by rw [hS0]; exact castTop (ef_str3 m p2) k
  have fin : ∀ t, Steps p.tables e below S0 t → Steps p.tables e below (s₁.setTop (entryFrame m #[(.int 3), (.int p2)] 3)) t := fun t k => by rw [hS0] at k; exact k
  have kc0 : Keep h0 h0 [] := Keep.refl _ _
  have pre1 : own_Go p e below S0 (s₁.setTop (mkF m 60 #[.val (.int 3), .val (.int p2), .unset] [(.int 3)])) := by
    intro t kt
    refine pre0 t ?_
    refine XS.iloadN X0.here hx rfl (hb hby d1_0) rfl ?_
    refine XS.ifYes X0.here hx rfl (pc0 := 1) (pc' := 11) rfl (hb hby d1_1) rfl ((if0 _ _).trans (feq (by decide : ¬ ((3 : Int32) = (0 : Int32)))).2) (by decide) (by decide) ?_
    refine XS.iloadN X0.here hx rfl (hb hby d1_11) rfl ?_
    refine XS.iconst X0.here hx rfl (hb hby d1_12) ?_
    show Steps p.tables e below (s₁.setTop (mkF m 13 #[.val (.int 3), .val (.int p2), .unset] [(.int 1), (.int 3)])) _
    refine XS.icmpYes X0.here hx rfl (pc0 := 13) (pc' := 31) rfl (hb hby d1_13) rfl (feq (by decide : ¬ ((3 : Int32) = (1 : Int32)))).2 (by decide) (by decide) ?_
    refine XS.iloadN X0.here hx rfl (hb hby d1_31) rfl ?_
    refine XS.iconst X0.here hx rfl (hb hby d1_32) ?_
    refine XS.icmpYes X0.here hx rfl (pc0 := 33) (pc' := 59) rfl (hb hby d1_33) rfl (feq (by decide : ¬ ((3 : Int32) = (2 : Int32)))).2 (by decide) (by decide) ?_
    show Steps p.tables e below (s₁.setTop (mkF m 59 #[.val (.int 3), .val (.int p2), .unset] [])) _
    refine XS.iconst X0.here hx rfl (hb hby d1_59) ?_
    exact kt
  obtain ⟨T2, h2, k2, X2, e2, E2, A2, st2⟩ := newP X0 hx hZ (hw _ (own_w 4 rfl)) e0 (g := (mkF m 60 #[.val (.int 3), .val (.int p2), .unset] [(.int 3)])) rfl (hb hby d1_60) rfl (by decide) (cap := 3) (by decide) (by decide) (by decide) (by decide)
  obtain ⟨b2, g2⟩ : ∃ z, z = h0.size := ⟨_, rfl⟩
  rw [← g2] at A2 st2
  have ge3 : n0 ≤ b2 := Nat.le_trans Z0 (Nat.le_of_eq g2.symm)
  have sz4 : h0.size ≤ b2 := Nat.le_trans kc0.1 (Nat.le_of_eq g2.symm)
  have zs5 : n0 ≤ h2.size := Nat.le_trans Z0 E2.1
  have kc6 : Keep h0 h2 [] := kc0.ext E2
  have V2 : Arv Z h2 b2 k2 .char (3 : Int32) [(.int 0), (.int 0), (.int 0)] (.int 0) := (Arv.new A2 (by decide)).pad (pad_rep [] (.int 0) 3)
  have pre7 : own_Go p e below S0 (T2.setTop (mkF m 66 #[.val (.int 3), .val (.int p2), .unset] [(.int 0), (.int p2), (.int 0), (.ref b2), (.ref b2)])) := by
    intro t kt
    refine pre1 t ?_
    refine st2 _ ?_
    refine XS.dup X2.here hx rfl (hb hby d1_62) rfl rfl ?_
    refine XS.iconst X2.here hx rfl (hb hby d1_63) ?_
    refine XS.iloadN X2.here hx rfl (hb hby d1_64) rfl ?_
    show Steps p.tables e below (T2.setTop (mkF m 65 #[.val (.int 3), .val (.int p2), .unset] [(.int p2), (.int 0), (.ref b2), (.ref b2)])) _
    refine XS.iconst X2.here hx rfl (hb hby d1_65) ?_
    exact kt
  obtain ⟨_, _, ⟨T8, L8, k8, n8⟩, -, X8, ⟨Lc8, hQ8, l8, y8, z8⟩, st8⟩ := Jvm.LawKit.callS X2 hx (y := own_m3) hown (mvT hZ (hw _ (own_w 69 rfl))) (mvT hZ (hw _ (own_w 70 rfl))) (mvT hZ (hw _ (own_w 2 rfl))) (mvT hZ (hw _ (own_w 71 rfl))) (by decide) (backOf (W := 3) (rm10 l Z a0 hw [] p2 (0 : Int32) h2 n0 zs5 ) hZ (hw _ (own_w 71 rfl)) (hw _ (own_w 2 rfl)) (by decide) (by decide)) (g := (mkF m 66 #[.val (.int 3), .val (.int p2), .unset] [(.int 0), (.int p2), (.int 0), (.ref b2), (.ref b2)])) rfl (by rw [hml]; rfl) (argsL := [(.int p2), (.int 0)]) (rest := [(.int 0), (.ref b2), (.ref b2)]) (lenOf pd_5 rfl) rfl (by show 2 * 0 + _ ≤ _; exact Nat.le_of_eq rfl) (hb hby d1_66) (fun _ _ => ⟨rfl, e2, (by decide : 1 + 0 ≤ _), (by decide : 3 + 0 ≤ _)⟩)
  dsimp only [Pt.U, Pt.locs, Pt.cells, Pt.slots] at X8 l8 y8 z8 st8 hQ8
  subst l8 y8 z8
  obtain ⟨rfl, Nq8, eq8⟩ := hQ8
  have N8 := Fr.app N0 Nq8
  have pre9 : own_Go p e below S0 (T8.setTop (mkF m 69 #[.val (.int 3), .val (.int p2), .unset] [(.int (own_ch p2 (0 : Int32))), (.int 0), (.ref b2), (.ref b2)])) := by
    intro t kt
    refine pre7 t ?_
    refine st8 _ ?_
    show Steps p.tables e below (T8.setTop (mkF m 69 #[.val (.int 3), .val (.int p2), .unset] [(.int (own_ch p2 (0 : Int32))), (.int 0), (.ref b2), (.ref b2)])) _
    exact kt
  obtain ⟨cl10, Ar10, q10, Sz10, Ng10, Hs10, Gt10⟩ := id V2
  have hin10 : ¬ ((0 : Int32) < 0 ∨ cl10.slots.size ≤ ((0 : Int32)).toNatClampNeg) := inb_of Sz10 ⟨by decide, by decide⟩
  obtain ⟨T10, h10, X10, e10, W10, st10⟩ := stC X8 hx hZ eq8 Ar10 (j := (0 : Int32)) hin10 (g := (mkF m 69 #[.val (.int 3), .val (.int p2), .unset] [(.int (own_ch p2 (0 : Int32))), (.int 0), (.ref b2), (.ref b2)])) rfl rfl (hb hby d1_69)
  have N10 := Fr.snoc X10 N8 ge3
  have zs11 : n0 ≤ h10.size := Nat.le_trans zs5 (Keep.of_wr W10).1
  have kc12 : Keep h0 h10 [] := kc6.wr W10 (Or.inr sz4)
  have V10 : Arv Z h10 b2 k2 .char (3 : Int32) [(.int (nar .char (own_ch p2 (0 : Int32)))), (.int 0), (.int 0)] (.int 0) := Arv.set Ar10 q10 Sz10 Ng10 Hs10 Gt10 (fits_nar_char _) W10 0 rfl (Nat.le_of_ble_eq_true rfl)
  have pre13 : own_Go p e below S0 (T10.setTop (mkF m 74 #[.val (.int 3), .val (.int p2), .unset] [(.int 1), (.int p2), (.int 1), (.ref b2), (.ref b2)])) := by
    intro t kt
    refine pre9 t ?_
    refine st10 _ ?_
    refine XS.dup X10.here hx rfl (hb hby d1_70) rfl rfl ?_
    refine XS.iconst X10.here hx rfl (hb hby d1_71) ?_
    refine XS.iloadN X10.here hx rfl (hb hby d1_72) rfl ?_
    show Steps p.tables e below (T10.setTop (mkF m 73 #[.val (.int 3), .val (.int p2), .unset] [(.int p2), (.int 1), (.ref b2), (.ref b2)])) _
    refine XS.iconst X10.here hx rfl (hb hby d1_73) ?_
    exact kt
  obtain ⟨_, _, ⟨T14, L14, k14, n14⟩, -, X14, ⟨Lc14, hQ14, l14, y14, z14⟩, st14⟩ := Jvm.LawKit.callS X10 hx (y := own_m3) hown (mvT hZ (hw _ (own_w 69 rfl))) (mvT hZ (hw _ (own_w 70 rfl))) (mvT hZ (hw _ (own_w 2 rfl))) (mvT hZ (hw _ (own_w 71 rfl))) (by decide) (backOf (W := 3) (rm10 l Z a0 hw [] p2 (1 : Int32) h10 n0 zs11 ) hZ (hw _ (own_w 71 rfl)) (hw _ (own_w 2 rfl)) (by decide) (by decide)) (g := (mkF m 74 #[.val (.int 3), .val (.int p2), .unset] [(.int 1), (.int p2), (.int 1), (.ref b2), (.ref b2)])) rfl (by rw [hml]; rfl) (argsL := [(.int p2), (.int 1)]) (rest := [(.int 1), (.ref b2), (.ref b2)]) (lenOf pd_5 rfl) rfl (by show 2 * 0 + _ ≤ _; exact Nat.le_of_eq rfl) (hb hby d1_74) (fun _ _ => ⟨rfl, e10, (by decide : 1 + 0 ≤ _), (by decide : 3 + 0 ≤ _)⟩)
  dsimp only [Pt.U, Pt.locs, Pt.cells, Pt.slots] at X14 l14 y14 z14 st14 hQ14
  subst l14 y14 z14
  obtain ⟨rfl, Nq14, eq14⟩ := hQ14
  have N14 := Fr.app N10 Nq14
  have pre15 : own_Go p e below S0 (T14.setTop (mkF m 77 #[.val (.int 3), .val (.int p2), .unset] [(.int (own_ch p2 (1 : Int32))), (.int 1), (.ref b2), (.ref b2)])) := by
    intro t kt
    refine pre13 t ?_
    refine st14 _ ?_
    show Steps p.tables e below (T14.setTop (mkF m 77 #[.val (.int 3), .val (.int p2), .unset] [(.int (own_ch p2 (1 : Int32))), (.int 1), (.ref b2), (.ref b2)])) _
    exact kt
  obtain ⟨cl16, Ar16, q16, Sz16, Ng16, Hs16, Gt16⟩ := id V10
  have hin16 : ¬ ((1 : Int32) < 0 ∨ cl16.slots.size ≤ ((1 : Int32)).toNatClampNeg) := inb_of Sz16 ⟨by decide, by decide⟩
  obtain ⟨T16, h16, X16, e16, W16, st16⟩ := stC X14 hx hZ eq14 Ar16 (j := (1 : Int32)) hin16 (g := (mkF m 77 #[.val (.int 3), .val (.int p2), .unset] [(.int (own_ch p2 (1 : Int32))), (.int 1), (.ref b2), (.ref b2)])) rfl rfl (hb hby d1_77)
  have N16 := Fr.snoc X16 N14 ge3
  have zs17 : n0 ≤ h16.size := Nat.le_trans zs11 (Keep.of_wr W16).1
  have kc18 : Keep h0 h16 [] := kc12.wr W16 (Or.inr sz4)
  have V16 : Arv Z h16 b2 k2 .char (3 : Int32) [(.int (nar .char (own_ch p2 (0 : Int32)))), (.int (nar .char (own_ch p2 (1 : Int32)))), (.int 0)] (.int 0) := Arv.set Ar16 q16 Sz16 Ng16 Hs16 Gt16 (fits_nar_char _) W16 1 rfl (Nat.le_of_ble_eq_true rfl)
  have pre19 : own_Go p e below S0 (T16.setTop (mkF m 82 #[.val (.int 3), .val (.int p2), .unset] [(.int 2), (.int p2), (.int 2), (.ref b2), (.ref b2)])) := by
    intro t kt
    refine pre15 t ?_
    refine st16 _ ?_
    refine XS.dup X16.here hx rfl (hb hby d1_78) rfl rfl ?_
    refine XS.iconst X16.here hx rfl (hb hby d1_79) ?_
    refine XS.iloadN X16.here hx rfl (hb hby d1_80) rfl ?_
    show Steps p.tables e below (T16.setTop (mkF m 81 #[.val (.int 3), .val (.int p2), .unset] [(.int p2), (.int 2), (.ref b2), (.ref b2)])) _
    refine XS.iconst X16.here hx rfl (hb hby d1_81) ?_
    exact kt
  obtain ⟨_, _, ⟨T20, L20, k20, n20⟩, -, X20, ⟨Lc20, hQ20, l20, y20, z20⟩, st20⟩ := Jvm.LawKit.callS X16 hx (y := own_m3) hown (mvT hZ (hw _ (own_w 69 rfl))) (mvT hZ (hw _ (own_w 70 rfl))) (mvT hZ (hw _ (own_w 2 rfl))) (mvT hZ (hw _ (own_w 71 rfl))) (by decide) (backOf (W := 3) (rm10 l Z a0 hw [] p2 (2 : Int32) h16 n0 zs17 ) hZ (hw _ (own_w 71 rfl)) (hw _ (own_w 2 rfl)) (by decide) (by decide)) (g := (mkF m 82 #[.val (.int 3), .val (.int p2), .unset] [(.int 2), (.int p2), (.int 2), (.ref b2), (.ref b2)])) rfl (by rw [hml]; rfl) (argsL := [(.int p2), (.int 2)]) (rest := [(.int 2), (.ref b2), (.ref b2)]) (lenOf pd_5 rfl) rfl (by show 2 * 0 + _ ≤ _; exact Nat.le_of_eq rfl) (hb hby d1_82) (fun _ _ => ⟨rfl, e16, (by decide : 1 + 0 ≤ _), (by decide : 3 + 0 ≤ _)⟩)
  dsimp only [Pt.U, Pt.locs, Pt.cells, Pt.slots] at X20 l20 y20 z20 st20 hQ20
  subst l20 y20 z20
  obtain ⟨rfl, Nq20, eq20⟩ := hQ20
  have N20 := Fr.app N16 Nq20
  have pre21 : own_Go p e below S0 (T20.setTop (mkF m 85 #[.val (.int 3), .val (.int p2), .unset] [(.int (own_ch p2 (2 : Int32))), (.int 2), (.ref b2), (.ref b2)])) := by
    intro t kt
    refine pre19 t ?_
    refine st20 _ ?_
    show Steps p.tables e below (T20.setTop (mkF m 85 #[.val (.int 3), .val (.int p2), .unset] [(.int (own_ch p2 (2 : Int32))), (.int 2), (.ref b2), (.ref b2)])) _
    exact kt
  obtain ⟨cl22, Ar22, q22, Sz22, Ng22, Hs22, Gt22⟩ := id V16
  have hin22 : ¬ ((2 : Int32) < 0 ∨ cl22.slots.size ≤ ((2 : Int32)).toNatClampNeg) := inb_of Sz22 ⟨by decide, by decide⟩
  obtain ⟨T22, h22, X22, e22, W22, st22⟩ := stC X20 hx hZ eq20 Ar22 (j := (2 : Int32)) hin22 (g := (mkF m 85 #[.val (.int 3), .val (.int p2), .unset] [(.int (own_ch p2 (2 : Int32))), (.int 2), (.ref b2), (.ref b2)])) rfl rfl (hb hby d1_85)
  have N22 := Fr.snoc X22 N20 ge3
  have zs23 : n0 ≤ h22.size := Nat.le_trans zs17 (Keep.of_wr W22).1
  have kc24 : Keep h0 h22 [] := kc18.wr W22 (Or.inr sz4)
  have V22 : Arv Z h22 b2 k2 .char (3 : Int32) [(.int (nar .char (own_ch p2 (0 : Int32)))), (.int (nar .char (own_ch p2 (1 : Int32)))), (.int (nar .char (own_ch p2 (2 : Int32))))] (.int 0) := Arv.set Ar22 q22 Sz22 Ng22 Hs22 Gt22 (fits_nar_char _) W22 2 rfl (Nat.le_of_ble_eq_true rfl)
  have pre25 : own_Go p e below S0 (T22.setTop (mkF m 87 #[.val (.int 3), .val (.int p2), .val (.ref b2)] [])) := by
    intro t kt
    refine pre21 t ?_
    refine st22 _ ?_
    refine XS.astoreN X22.here hx rfl (hb hby d1_86) rfl rfl (l' := #[.val (.int 3), .val (.int p2), .val (.ref b2)]) rfl ?_
    exact kt
  obtain ⟨T26, h26, X26, e26, E26, A26, D26, -, st26⟩ := newO X22 hx hZ hown (hw _ (own_w 5 rfl)) (hw _ (own_w 6 rfl)) (hw _ (own_w 7 rfl)) e22 (g := (mkF m 87 #[.val (.int 3), .val (.int p2), .val (.ref b2)] [])) rfl (hb hby d1_87) (by decide) (by decide)
  obtain ⟨b26, g26⟩ : ∃ z, z = h22.size := ⟨_, rfl⟩
  rw [← g26] at A26 D26 st26
  have ne27 : b2 ≠ b26 := Nat.ne_of_lt (Nat.lt_of_lt_of_le V22.lt (Nat.le_of_eq g26.symm))
  have ge28 : n0 ≤ b26 := Nat.le_trans zs23 (Nat.le_of_eq g26.symm)
  have sz29 : h0.size ≤ b26 := Nat.le_trans kc24.1 (Nat.le_of_eq g26.symm)
  have zs30 : n0 ≤ h26.size := Nat.le_trans zs23 E26.1
  have kc31 : Keep h0 h26 [] := kc24.ext E26
  have fd32 : Fld Z h26 b26 "java/lang/String" "value" "[B" .null := D26 (Or.inr (hw _ (own_w 20 rfl))) (ty := (.array .byte)) (by decide)
  have fd33 : Fld Z h26 b26 "java/lang/String" "coder" "B" (.int 0) := D26 (Or.inr (hw _ (own_w 21 rfl))) (ty := .byte) (by decide)
  have pre34 : own_Go p e below S0 (T26.setTop (mkF m 92 #[.val (.int 3), .val (.int p2), .val (.ref b2)] [(.ref b2), (.ref b26), (.ref b26)])) := by
    intro t kt
    refine pre25 t ?_
    refine st26 _ ?_
    refine XS.dup X26.here hx rfl (hb hby d1_90) rfl rfl ?_
    refine XS.aloadN X26.here hx rfl (hb hby d1_91) rfl rfl ?_
    exact kt
  have f35 := (((O0.ext E2).wr W10 ge3).wr W16 ge3)
  have f36 : Old Z n0 h26 := ((f35.wr W22 ge3).ext E26)
  have f37 : Arv Z h26 b2 k2 .char (3 : Int32) [(.int (nar .char (own_ch p2 (0 : Int32)))), (.int (nar .char (own_ch p2 (1 : Int32)))), (.int (nar .char (own_ch p2 (2 : Int32))))] (.int 0) := (V22.ext E26)
  obtain ⟨_, _, ⟨T38, L38, k38, n38⟩, -, X38, ⟨Lc38, hQ38, l38, y38, z38⟩, st38⟩ := X26.specialBack hx (y := own_m7) rfl hown (mvT hZ (hw _ (own_w 8 rfl))) (mvT hZ (hw _ (own_w 9 rfl))) (mvT hZ (hw _ (own_w 10 rfl))) (by decide) (backOf (W := 1) (rmini1L3 l Z a0 hw [] b26 b2 k2 (nar .char (own_ch p2 (0 : Int32))) (nar .char (own_ch p2 (1 : Int32))) (nar .char (own_ch p2 (2 : Int32))) wC h26 n0 zs30 f36 qC A26 fd32 fd33 ge28 f37 (own_ch255 _ _) (own_ch255 _ _) (own_ch255 _ _)) hZ (hw _ (own_w 10 rfl)) (hw _ (own_w 7 rfl)) (by decide) (by decide)) (g := (mkF m 92 #[.val (.int 3), .val (.int p2), .val (.ref b2)] [(.ref b2), (.ref b26), (.ref b26)])) rfl (by rw [hml]; rfl) (Steps.refl _) (a := b26) (argsL := [(.ref b2)]) (rest := [(.ref b26)]) (lenOf pd_4 rfl) rfl (by show 2 * 0 + _ ≤ _; exact Nat.le_of_eq rfl) (hb hby d1_92) (fun _ _ => ⟨rfl, e26, (by decide : 2 + 1 ≤ _), (by decide : 7 + 3 ≤ _)⟩)
  dsimp only [Pt.U, Pt.locs, Pt.cells, Pt.slots] at X38 l38 y38 z38 st38 hQ38
  subst l38 y38 z38
  obtain ⟨vb39, kb40, rfl, Nq38, K38, g41, g42⟩ := hQ38
  have N38 := Fr.app N22 Nq38
  have ne43 : b2 ≠ vb39 := Nat.ne_of_lt (Nat.lt_of_lt_of_le f37.lt g41)
  have ne44 : b26 ≠ vb39 := Nat.ne_of_lt (Nat.lt_of_lt_of_le A26.lt g41)
  have ge45 : n0 ≤ vb39 := Nat.le_trans zs30 g41
  have sz46 : h0.size ≤ vb39 := Nat.le_trans kc31.1 g41
  have zs47 : n0 ≤ T38.heap.size := Nat.le_trans zs30 K38.1
  have kc48 : Keep h0 T38.heap [] := kc31.trans K38 (allS (Or.inr sz29) all0)
  have pre49 : own_Go p e below S0 (T38.setTop (mkF m 95 #[.val (.int 3), .val (.int p2), .val (.ref b2)] [(.ref b26)])) := by
    intro t kt
    refine pre34 t ?_
    refine st38.trans ?_
    show Steps p.tables e below (T38.setTop (mkF m 95 #[.val (.int 3), .val (.int p2), .val (.ref b2)] [(.ref b26)])) _
    exact kt
  obtain ⟨fs, hr, hrun, hended, hW, hsame⟩ := X38.leave (v := some (.ref b26)) (fun h => by rw [Bd.returns] at h; cases h)
  refine ⟨_, _, fin _ (pre49 _ ?_), hrun, hended, _, _, rfl, ?_, ⟨_, rfl⟩, hW, hsame.mono (by decide) (by decide)⟩
  · jvm_step X38.here [X38.here.top, hx, (hb hby d1_95), X38.method', Bd.returns, Value.isRef, FieldType.isReference]
    first | (intro acts; rw [hr _ acts rfl rfl rfl]) | rw [hr _ _ rfl rfl rfl]
    exact Steps.refl _
  · show Qstr3 Z p2 wC h0 n0 _ T38.heap _
    exact ⟨b26, vb39, kb40, rfl, N38, kc48, sz29, sz46, g42⟩

def own_S3 (cs : List Int32) : Prop := cs = [] ∨ (∃ x0, cs = [x0]) ∨ (∃ x0 x1, cs = [x0, x1]) ∨ (∃ x0 x1 x2, cs = [x0, x1, x2])
theorem own_S3of (n b : Int32) : own_S3 (own_csOf n b) := by
  unfold own_csOf
  split
  · exact Or.inl rfl
  · split
    · exact Or.inr (Or.inl ⟨_, rfl⟩)
    · split
      · exact Or.inr (Or.inr (Or.inl ⟨_, _, rfl⟩))
      · exact Or.inr (Or.inr (Or.inr ⟨_, _, _, rfl⟩))

theorem d16_0 : decode jdk_43_method_13_code 0 = .ok (.aload_n 0, 1) := by decide +kernel
theorem d16_1 : decode jdk_43_method_13_code 1 = .ok (.arraylength, 1) := by decide +kernel
theorem d16_2 : decode jdk_43_method_13_code 2 = .ok (.aload_n 1, 1) := by decide +kernel
theorem d16_3 : decode jdk_43_method_13_code 3 = .ok (.arraylength, 1) := by decide +kernel
theorem d16_4 : decode jdk_43_method_13_code 4 = .ok (.if_icmp .ne 30, 3) := by decide +kernel
theorem d16_7 : decode jdk_43_method_13_code 7 = .ok (.iconst 0, 1) := by decide +kernel
theorem d16_8 : decode jdk_43_method_13_code 8 = .ok (.istore_n 2, 1) := by decide +kernel
theorem d16_9 : decode jdk_43_method_13_code 9 = .ok (.iload_n 2, 1) := by decide +kernel
theorem d16_10 : decode jdk_43_method_13_code 10 = .ok (.aload_n 0, 1) := by decide +kernel
theorem d16_11 : decode jdk_43_method_13_code 11 = .ok (.arraylength, 1) := by decide +kernel
theorem d16_12 : decode jdk_43_method_13_code 12 = .ok (.if_icmp .ge 20, 3) := by decide +kernel
theorem d16_15 : decode jdk_43_method_13_code 15 = .ok (.aload_n 0, 1) := by decide +kernel
theorem d16_16 : decode jdk_43_method_13_code 16 = .ok (.iload_n 2, 1) := by decide +kernel
theorem d16_17 : decode jdk_43_method_13_code 17 = .ok (.baload, 1) := by decide +kernel
theorem d16_18 : decode jdk_43_method_13_code 18 = .ok (.aload_n 1, 1) := by decide +kernel
theorem d16_19 : decode jdk_43_method_13_code 19 = .ok (.iload_n 2, 1) := by decide +kernel
theorem d16_20 : decode jdk_43_method_13_code 20 = .ok (.baload, 1) := by decide +kernel
theorem d16_21 : decode jdk_43_method_13_code 21 = .ok (.if_icmp .eq 5, 3) := by decide +kernel
theorem d16_24 : decode jdk_43_method_13_code 24 = .ok (.iconst 0, 1) := by decide +kernel
theorem d16_25 : decode jdk_43_method_13_code 25 = .ok (.ireturn, 1) := by decide +kernel
theorem d16_26 : decode jdk_43_method_13_code 26 = .ok (.iinc 2 1, 3) := by decide +kernel
theorem d16_29 : decode jdk_43_method_13_code 29 = .ok (.goto (-20), 3) := by decide +kernel
theorem d16_32 : decode jdk_43_method_13_code 32 = .ok (.iconst 1, 1) := by decide +kernel
theorem d16_33 : decode jdk_43_method_13_code 33 = .ok (.ireturn, 1) := by decide +kernel
theorem d16_34 : decode jdk_43_method_13_code 34 = .ok (.iconst 0, 1) := by decide +kernel
theorem d16_35 : decode jdk_43_method_13_code 35 = .ok (.ireturn, 1) := by decide +kernel
theorem pn_16 : plainName "java/lang/StringLatin1" = true := by first | (simp [plainName, overriddenIn]; done) | decide +kernel
theorem ef_leq (m : MethodId) (x0 : Addr) (x1 : Addr) : entryFrame m #[(.ref x0), (.ref x1)] 3 = mkF m 0 #[.val (.ref x0), .val (.ref x1), .unset] [] := by first | (simp [entryFrame, mkF, argsToLocals, Value.category]; done) | rfl
def Qleq (Z : State) (a1 : Addr) (a2 : Addr) (k1 : ClassId) (k2 : ClassId) (cs1 : List Int32) (cs2 : List Int32) (h0 : Heap) (n0 : Nat) (v : Option Value) (h : Heap) (L : List Loc) : Prop := v = (some (.int (own_beq cs1 cs2))) ∧ Fr n0 L ∧ h = h0
set_option maxRecDepth 65536 in
set_option maxHeartbeats 40000000 in
theorem rmleq (l : Launch) (Z : State) (a0 : Array Value) (hw : ∀ d ∈ tables_1, d.before a0 Z = true) (ws : List Jvm.Cond) (a1 : Addr) (a2 : Addr) (k1 : ClassId) (k2 : ClassId) (cs1 : List Int32) (cs2 : List Int32) (h0 : Heap) (n0 : Nat) (Z0 : n0 ≤ h0.size) (V1 : Arv Z h0 a1 k1 .byte (own_len cs1) (cs1.map own_lb) (.int 0)) (V2 : Arv Z h0 a2 k2 .byte (own_len cs2) (cs2.map own_lb) (.int 0)) (s1 : (own_S3 cs1)) (s2 : (own_S3 cs2)) :
    MetFree l own_m10 (head1 (Jvm.Cond.code own_m10 jdk_43_method_13_code 3 (some .boolean) :: ws) (own_r 0 0 0 0)) (fun a U => a = #[(.ref a1), (.ref a2)] ∧ Z.Warmed39 U.vm ∧ U.heap = h0) (fun _ _ _ _ _ => True) (fun _ U o U' => ∃ v L, o = .returned v ∧ Qleq Z a1 a2 k1 k2 cs1 cs2 h0 n0 v U'.heap L ∧ FrameEnd U o U' L (own_r 0 0 0 0).cells (own_r 0 0 0 0).slots) := by
  refine MetFree.of_bodySF (plainFor_of_name pn_16) hisR ?_
  intro p e s m args below meth c s₁ Bd hml0 hP hK
  obtain ⟨rfl, hZ, hh⟩ := hP
  have hx := Bd.exec
  have hby := Bd.bytes
  have hml : c.maxLocals = 3 := hml0
  have hown0 := findClass_of_methodNamed Bd.named
  have hown : s.vm.findClass "java/lang/StringLatin1" = some m.cls := hown0
  have hnm := (name_of_methodNamed Bd.named Bd.method).1
  have X0 : Stand p l e (own_r 0 0 0 0) s m #[(.ref a1), (.ref a2)] below meth c s₁ [] 0 0 := Stand.of_body Bd
  have e0 : s₁.heap = h0 := by rw [← hh, Bd.state]; rfl
  have N0 := Fr.nil n0
  obtain ⟨S0, hS0⟩ : ∃ z, z = s₁.setTop (entryFrame m #[(.ref a1), (.ref a2)] 3) := ⟨_, rfl⟩
  have pre0 : own_Go p e below S0 (s₁.setTop (mkF m 0 #[.val (.ref a1), .val (.ref a2), .unset] [])) := fun t k => by rw [hS0]; exact castTop (ef_leq m a1 a2) k
  have fin : ∀ t, Steps p.tables e below S0 t → Steps p.tables e below (s₁.setTop (entryFrame m #[(.ref a1), (.ref a2)] 3)) t := fun t k => by rw [hS0] at k; exact k
  rcases s1 with rfl | ⟨x0, rfl⟩ | ⟨x0, x1, rfl⟩ | ⟨x0, x1, x2, rfl⟩ <;> rcases s2 with rfl | ⟨y0, rfl⟩ | ⟨y0, y1, rfl⟩ | ⟨y0, y1, y2, rfl⟩
  · have v1_ : Arv Z h0 a1 k1 .byte (0 : Int32) [] (.int 0) := V1
    have v2_ : Arv Z h0 a2 k2 .byte (0 : Int32) [] (.int 0) := V2
    have pre1 : own_Go p e below S0 (s₁.setTop (mkF m 1 #[.val (.ref a1), .val (.ref a2), .unset] [(.ref a1)])) := by
      intro t kt
      refine pre0 t ?_
      refine XS.aloadN X0.here hx rfl (hb hby d16_0) rfl rfl ?_
      exact kt
    obtain ⟨cl2, Ar2, -, Sz2, Ng2, -, -⟩ := id v1_
    have pre3 : own_Go p e below S0 (s₁.setTop (mkF m 3 #[.val (.ref a1), .val (.ref a2), .unset] [(.ref a2), (.int 0)])) := by
      intro t kt
      refine pre1 t ?_
      refine X0.arraylength hx (by rw [e0]; exact Ar2.1) (State.isArrayOf_alike hZ.alike Ar2.2.1) (g := (mkF m 1 #[.val (.ref a1), .val (.ref a2), .unset] [(.ref a1)])) rfl rfl (hb hby d16_1) _ ?_
      rw [len_of Sz2 Ng2]
      show Steps p.tables e below (s₁.setTop (mkF m 2 #[.val (.ref a1), .val (.ref a2), .unset] [(.int 0)])) _
      refine XS.aloadN X0.here hx rfl (hb hby d16_2) rfl rfl ?_
      exact kt
    obtain ⟨cl4, Ar4, -, Sz4, Ng4, -, -⟩ := id v2_
    have pre5 : own_Go p e below S0 (s₁.setTop (mkF m 11 #[.val (.ref a1), .val (.ref a2), .val (.int 0)] [(.ref a1), (.int 0)])) := by
      intro t kt
      refine pre3 t ?_
      refine X0.arraylength hx (by rw [e0]; exact Ar4.1) (State.isArrayOf_alike hZ.alike Ar4.2.1) (g := (mkF m 3 #[.val (.ref a1), .val (.ref a2), .unset] [(.ref a2), (.int 0)])) rfl rfl (hb hby d16_3) _ ?_
      rw [len_of Sz4 Ng4]
      show Steps p.tables e below (s₁.setTop (mkF m 4 #[.val (.ref a1), .val (.ref a2), .unset] [(.int 0), (.int 0)])) _
      refine XS.icmpNo X0.here hx rfl (hb hby d16_4) rfl (teq (by decide : (0 : Int32) = (0 : Int32))).2 ?_
      refine XS.iconst X0.here hx rfl (hb hby d16_7) ?_
      show Steps p.tables e below (s₁.setTop (mkF m 8 #[.val (.ref a1), .val (.ref a2), .unset] [(.int 0)])) _
      refine XS.istoreN X0.here hx rfl (hb hby d16_8) rfl (l' := #[.val (.ref a1), .val (.ref a2), .val (.int 0)]) rfl ?_
      refine XS.iloadN X0.here hx rfl (hb hby d16_9) rfl ?_
      refine XS.aloadN X0.here hx rfl (hb hby d16_10) rfl rfl ?_
      exact kt
    obtain ⟨cl6, Ar6, -, Sz6, Ng6, -, -⟩ := id v1_
    have pre7 : own_Go p e below S0 (s₁.setTop (mkF m 33 #[.val (.ref a1), .val (.ref a2), .val (.int 0)] [(.int 1)])) := by
      intro t kt
      refine pre5 t ?_
      refine X0.arraylength hx (by rw [e0]; exact Ar6.1) (State.isArrayOf_alike hZ.alike Ar6.2.1) (g := (mkF m 11 #[.val (.ref a1), .val (.ref a2), .val (.int 0)] [(.ref a1), (.int 0)])) rfl rfl (hb hby d16_11) _ ?_
      rw [len_of Sz6 Ng6]
      show Steps p.tables e below (s₁.setTop (mkF m 12 #[.val (.ref a1), .val (.ref a2), .val (.int 0)] [(.int 0), (.int 0)])) _
      refine XS.icmpYes X0.here hx rfl (pc0 := 12) (pc' := 32) rfl (hb hby d16_12) rfl (flt (by decide : ¬ ((0 : Int32) < (0 : Int32)))).2.1 (by decide) (by decide) ?_
      refine XS.iconst X0.here hx rfl (hb hby d16_32) ?_
      show Steps p.tables e below (s₁.setTop (mkF m 33 #[.val (.ref a1), .val (.ref a2), .val (.int 0)] [(.int 1)])) _
      exact kt
    obtain ⟨fs, hr, hrun, hended, hW, hsame⟩ := X0.leave (v := some (.int 1)) (fun h => by rw [Bd.returns] at h; cases h)
    refine ⟨_, _, fin _ (pre7 _ ?_), hrun, hended, _, _, rfl, ?_, ⟨_, rfl⟩, hW, hsame.mono (by decide) (by decide)⟩
    · exact retN X0 hx (t := .boolean) Bd.returns (by simp) (hb hby d16_33) hr
    · show Qleq Z _ _ _ _ _ _ h0 n0 _ s₁.heap _
      rw [e0]
      exact ⟨(by show some (Value.int _) = some (Value.int 1); rfl), N0, rfl⟩
  · have v1_ : Arv Z h0 a1 k1 .byte (0 : Int32) [] (.int 0) := V1
    have v2_ : Arv Z h0 a2 k2 .byte (1 : Int32) [(.int (nar .byte (y0.toInt8.toInt32)))] (.int 0) := V2
    have pre8 : own_Go p e below S0 (s₁.setTop (mkF m 1 #[.val (.ref a1), .val (.ref a2), .unset] [(.ref a1)])) := by
      intro t kt
      refine pre0 t ?_
      refine XS.aloadN X0.here hx rfl (hb hby d16_0) rfl rfl ?_
      exact kt
    obtain ⟨cl9, Ar9, -, Sz9, Ng9, -, -⟩ := id v1_
    have pre10 : own_Go p e below S0 (s₁.setTop (mkF m 3 #[.val (.ref a1), .val (.ref a2), .unset] [(.ref a2), (.int 0)])) := by
      intro t kt
      refine pre8 t ?_
      refine X0.arraylength hx (by rw [e0]; exact Ar9.1) (State.isArrayOf_alike hZ.alike Ar9.2.1) (g := (mkF m 1 #[.val (.ref a1), .val (.ref a2), .unset] [(.ref a1)])) rfl rfl (hb hby d16_1) _ ?_
      rw [len_of Sz9 Ng9]
      show Steps p.tables e below (s₁.setTop (mkF m 2 #[.val (.ref a1), .val (.ref a2), .unset] [(.int 0)])) _
      refine XS.aloadN X0.here hx rfl (hb hby d16_2) rfl rfl ?_
      exact kt
    obtain ⟨cl11, Ar11, -, Sz11, Ng11, -, -⟩ := id v2_
    have pre12 : own_Go p e below S0 (s₁.setTop (mkF m 35 #[.val (.ref a1), .val (.ref a2), .unset] [(.int 0)])) := by
      intro t kt
      refine pre10 t ?_
      refine X0.arraylength hx (by rw [e0]; exact Ar11.1) (State.isArrayOf_alike hZ.alike Ar11.2.1) (g := (mkF m 3 #[.val (.ref a1), .val (.ref a2), .unset] [(.ref a2), (.int 0)])) rfl rfl (hb hby d16_3) _ ?_
      rw [len_of Sz11 Ng11]
      show Steps p.tables e below (s₁.setTop (mkF m 4 #[.val (.ref a1), .val (.ref a2), .unset] [(.int 1), (.int 0)])) _
      refine XS.icmpYes X0.here hx rfl (pc0 := 4) (pc' := 34) rfl (hb hby d16_4) rfl (feq (by decide : ¬ ((0 : Int32) = (1 : Int32)))).2 (by decide) (by decide) ?_
      refine XS.iconst X0.here hx rfl (hb hby d16_34) ?_
      show Steps p.tables e below (s₁.setTop (mkF m 35 #[.val (.ref a1), .val (.ref a2), .unset] [(.int 0)])) _
      exact kt
    obtain ⟨fs, hr, hrun, hended, hW, hsame⟩ := X0.leave (v := some (.int 0)) (fun h => by rw [Bd.returns] at h; cases h)
    refine ⟨_, _, fin _ (pre12 _ ?_), hrun, hended, _, _, rfl, ?_, ⟨_, rfl⟩, hW, hsame.mono (by decide) (by decide)⟩
    · exact retN X0 hx (t := .boolean) Bd.returns (by simp) (hb hby d16_35) hr
    · show Qleq Z _ _ _ _ _ _ h0 n0 _ s₁.heap _
      rw [e0]
      exact ⟨(congrArg (fun q => some (Value.int q)) (own_beqNe _ _ (by simp)).symm), N0, rfl⟩
  · have v1_ : Arv Z h0 a1 k1 .byte (0 : Int32) [] (.int 0) := V1
    have v2_ : Arv Z h0 a2 k2 .byte (2 : Int32) [(.int (nar .byte (y0.toInt8.toInt32))), (.int (nar .byte (y1.toInt8.toInt32)))] (.int 0) := V2
    have pre13 : own_Go p e below S0 (s₁.setTop (mkF m 1 #[.val (.ref a1), .val (.ref a2), .unset] [(.ref a1)])) := by
      intro t kt
      refine pre0 t ?_
      refine XS.aloadN X0.here hx rfl (hb hby d16_0) rfl rfl ?_
      exact kt
    obtain ⟨cl14, Ar14, -, Sz14, Ng14, -, -⟩ := id v1_
    have pre15 : own_Go p e below S0 (s₁.setTop (mkF m 3 #[.val (.ref a1), .val (.ref a2), .unset] [(.ref a2), (.int 0)])) := by
      intro t kt
      refine pre13 t ?_
      refine X0.arraylength hx (by rw [e0]; exact Ar14.1) (State.isArrayOf_alike hZ.alike Ar14.2.1) (g := (mkF m 1 #[.val (.ref a1), .val (.ref a2), .unset] [(.ref a1)])) rfl rfl (hb hby d16_1) _ ?_
      rw [len_of Sz14 Ng14]
      show Steps p.tables e below (s₁.setTop (mkF m 2 #[.val (.ref a1), .val (.ref a2), .unset] [(.int 0)])) _
      refine XS.aloadN X0.here hx rfl (hb hby d16_2) rfl rfl ?_
      exact kt
    obtain ⟨cl16, Ar16, -, Sz16, Ng16, -, -⟩ := id v2_
    have pre17 : own_Go p e below S0 (s₁.setTop (mkF m 35 #[.val (.ref a1), .val (.ref a2), .unset] [(.int 0)])) := by
      intro t kt
      refine pre15 t ?_
      refine X0.arraylength hx (by rw [e0]; exact Ar16.1) (State.isArrayOf_alike hZ.alike Ar16.2.1) (g := (mkF m 3 #[.val (.ref a1), .val (.ref a2), .unset] [(.ref a2), (.int 0)])) rfl rfl (hb hby d16_3) _ ?_
      rw [len_of Sz16 Ng16]
      show Steps p.tables e below (s₁.setTop (mkF m 4 #[.val (.ref a1), .val (.ref a2), .unset] [(.int 2), (.int 0)])) _
      refine XS.icmpYes X0.here hx rfl (pc0 := 4) (pc' := 34) rfl (hb hby d16_4) rfl (feq (by decide : ¬ ((0 : Int32) = (2 : Int32)))).2 (by decide) (by decide) ?_
      refine XS.iconst X0.here hx rfl (hb hby d16_34) ?_
      show Steps p.tables e below (s₁.setTop (mkF m 35 #[.val (.ref a1), .val (.ref a2), .unset] [(.int 0)])) _
      exact kt
    obtain ⟨fs, hr, hrun, hended, hW, hsame⟩ := X0.leave (v := some (.int 0)) (fun h => by rw [Bd.returns] at h; cases h)
    refine ⟨_, _, fin _ (pre17 _ ?_), hrun, hended, _, _, rfl, ?_, ⟨_, rfl⟩, hW, hsame.mono (by decide) (by decide)⟩
    · exact retN X0 hx (t := .boolean) Bd.returns (by simp) (hb hby d16_35) hr
    · show Qleq Z _ _ _ _ _ _ h0 n0 _ s₁.heap _
      rw [e0]
      exact ⟨(congrArg (fun q => some (Value.int q)) (own_beqNe _ _ (by simp)).symm), N0, rfl⟩
  · have v1_ : Arv Z h0 a1 k1 .byte (0 : Int32) [] (.int 0) := V1
    have v2_ : Arv Z h0 a2 k2 .byte (3 : Int32) [(.int (nar .byte (y0.toInt8.toInt32))), (.int (nar .byte (y1.toInt8.toInt32))), (.int (nar .byte (y2.toInt8.toInt32)))] (.int 0) := V2
    have pre18 : own_Go p e below S0 (s₁.setTop (mkF m 1 #[.val (.ref a1), .val (.ref a2), .unset] [(.ref a1)])) := by
      intro t kt
      refine pre0 t ?_
      refine XS.aloadN X0.here hx rfl (hb hby d16_0) rfl rfl ?_
      exact kt
    obtain ⟨cl19, Ar19, -, Sz19, Ng19, -, -⟩ := id v1_
    have pre20 : own_Go p e below S0 (s₁.setTop (mkF m 3 #[.val (.ref a1), .val (.ref a2), .unset] [(.ref a2), (.int 0)])) := by
      intro t kt
      refine pre18 t ?_
      refine X0.arraylength hx (by rw [e0]; exact Ar19.1) (State.isArrayOf_alike hZ.alike Ar19.2.1) (g := (mkF m 1 #[.val (.ref a1), .val (.ref a2), .unset] [(.ref a1)])) rfl rfl (hb hby d16_1) _ ?_
      rw [len_of Sz19 Ng19]
      show Steps p.tables e below (s₁.setTop (mkF m 2 #[.val (.ref a1), .val (.ref a2), .unset] [(.int 0)])) _
      refine XS.aloadN X0.here hx rfl (hb hby d16_2) rfl rfl ?_
      exact kt
    obtain ⟨cl21, Ar21, -, Sz21, Ng21, -, -⟩ := id v2_
    have pre22 : own_Go p e below S0 (s₁.setTop (mkF m 35 #[.val (.ref a1), .val (.ref a2), .unset] [(.int 0)])) := by
      intro t kt
      refine pre20 t ?_
      refine X0.arraylength hx (by rw [e0]; exact Ar21.1) (State.isArrayOf_alike hZ.alike Ar21.2.1) (g := (mkF m 3 #[.val (.ref a1), .val (.ref a2), .unset] [(.ref a2), (.int 0)])) rfl rfl (hb hby d16_3) _ ?_
      rw [len_of Sz21 Ng21]
      show Steps p.tables e below (s₁.setTop (mkF m 4 #[.val (.ref a1), .val (.ref a2), .unset] [(.int 3), (.int 0)])) _
      refine XS.icmpYes X0.here hx rfl (pc0 := 4) (pc' := 34) rfl (hb hby d16_4) rfl (feq (by decide : ¬ ((0 : Int32) = (3 : Int32)))).2 (by decide) (by decide) ?_
      refine XS.iconst X0.here hx rfl (hb hby d16_34) ?_
      show Steps p.tables e below (s₁.setTop (mkF m 35 #[.val (.ref a1), .val (.ref a2), .unset] [(.int 0)])) _
      exact kt
    obtain ⟨fs, hr, hrun, hended, hW, hsame⟩ := X0.leave (v := some (.int 0)) (fun h => by rw [Bd.returns] at h; cases h)
    refine ⟨_, _, fin _ (pre22 _ ?_), hrun, hended, _, _, rfl, ?_, ⟨_, rfl⟩, hW, hsame.mono (by decide) (by decide)⟩
    · exact retN X0 hx (t := .boolean) Bd.returns (by simp) (hb hby d16_35) hr
    · show Qleq Z _ _ _ _ _ _ h0 n0 _ s₁.heap _
      rw [e0]
      exact ⟨(congrArg (fun q => some (Value.int q)) (own_beqNe _ _ (by simp)).symm), N0, rfl⟩
  · have v1_ : Arv Z h0 a1 k1 .byte (1 : Int32) [(.int (nar .byte (x0.toInt8.toInt32)))] (.int 0) := V1
    have v2_ : Arv Z h0 a2 k2 .byte (0 : Int32) [] (.int 0) := V2
    have pre23 : own_Go p e below S0 (s₁.setTop (mkF m 1 #[.val (.ref a1), .val (.ref a2), .unset] [(.ref a1)])) := by
      intro t kt
      refine pre0 t ?_
      refine XS.aloadN X0.here hx rfl (hb hby d16_0) rfl rfl ?_
      exact kt
    obtain ⟨cl24, Ar24, -, Sz24, Ng24, -, -⟩ := id v1_
    have pre25 : own_Go p e below S0 (s₁.setTop (mkF m 3 #[.val (.ref a1), .val (.ref a2), .unset] [(.ref a2), (.int 1)])) := by
      intro t kt
      refine pre23 t ?_
      refine X0.arraylength hx (by rw [e0]; exact Ar24.1) (State.isArrayOf_alike hZ.alike Ar24.2.1) (g := (mkF m 1 #[.val (.ref a1), .val (.ref a2), .unset] [(.ref a1)])) rfl rfl (hb hby d16_1) _ ?_
      rw [len_of Sz24 Ng24]
      show Steps p.tables e below (s₁.setTop (mkF m 2 #[.val (.ref a1), .val (.ref a2), .unset] [(.int 1)])) _
      refine XS.aloadN X0.here hx rfl (hb hby d16_2) rfl rfl ?_
      exact kt
    obtain ⟨cl26, Ar26, -, Sz26, Ng26, -, -⟩ := id v2_
    have pre27 : own_Go p e below S0 (s₁.setTop (mkF m 35 #[.val (.ref a1), .val (.ref a2), .unset] [(.int 0)])) := by
      intro t kt
      refine pre25 t ?_
      refine X0.arraylength hx (by rw [e0]; exact Ar26.1) (State.isArrayOf_alike hZ.alike Ar26.2.1) (g := (mkF m 3 #[.val (.ref a1), .val (.ref a2), .unset] [(.ref a2), (.int 1)])) rfl rfl (hb hby d16_3) _ ?_
      rw [len_of Sz26 Ng26]
      show Steps p.tables e below (s₁.setTop (mkF m 4 #[.val (.ref a1), .val (.ref a2), .unset] [(.int 0), (.int 1)])) _
      refine XS.icmpYes X0.here hx rfl (pc0 := 4) (pc' := 34) rfl (hb hby d16_4) rfl (feq (by decide : ¬ ((1 : Int32) = (0 : Int32)))).2 (by decide) (by decide) ?_
      refine XS.iconst X0.here hx rfl (hb hby d16_34) ?_
      show Steps p.tables e below (s₁.setTop (mkF m 35 #[.val (.ref a1), .val (.ref a2), .unset] [(.int 0)])) _
      exact kt
    obtain ⟨fs, hr, hrun, hended, hW, hsame⟩ := X0.leave (v := some (.int 0)) (fun h => by rw [Bd.returns] at h; cases h)
    refine ⟨_, _, fin _ (pre27 _ ?_), hrun, hended, _, _, rfl, ?_, ⟨_, rfl⟩, hW, hsame.mono (by decide) (by decide)⟩
    · exact retN X0 hx (t := .boolean) Bd.returns (by simp) (hb hby d16_35) hr
    · show Qleq Z _ _ _ _ _ _ h0 n0 _ s₁.heap _
      rw [e0]
      exact ⟨(congrArg (fun q => some (Value.int q)) (own_beqNe _ _ (by simp)).symm), N0, rfl⟩
  · have v1_ : Arv Z h0 a1 k1 .byte (1 : Int32) [(.int (nar .byte (x0.toInt8.toInt32)))] (.int 0) := V1
    have v2_ : Arv Z h0 a2 k2 .byte (1 : Int32) [(.int (nar .byte (y0.toInt8.toInt32)))] (.int 0) := V2
    have pre28 : own_Go p e below S0 (s₁.setTop (mkF m 1 #[.val (.ref a1), .val (.ref a2), .unset] [(.ref a1)])) := by
      intro t kt
      refine pre0 t ?_
      refine XS.aloadN X0.here hx rfl (hb hby d16_0) rfl rfl ?_
      exact kt
    obtain ⟨cl29, Ar29, -, Sz29, Ng29, -, -⟩ := id v1_
    have pre30 : own_Go p e below S0 (s₁.setTop (mkF m 3 #[.val (.ref a1), .val (.ref a2), .unset] [(.ref a2), (.int 1)])) := by
      intro t kt
      refine pre28 t ?_
      refine X0.arraylength hx (by rw [e0]; exact Ar29.1) (State.isArrayOf_alike hZ.alike Ar29.2.1) (g := (mkF m 1 #[.val (.ref a1), .val (.ref a2), .unset] [(.ref a1)])) rfl rfl (hb hby d16_1) _ ?_
      rw [len_of Sz29 Ng29]
      show Steps p.tables e below (s₁.setTop (mkF m 2 #[.val (.ref a1), .val (.ref a2), .unset] [(.int 1)])) _
      refine XS.aloadN X0.here hx rfl (hb hby d16_2) rfl rfl ?_
      exact kt
    obtain ⟨cl31, Ar31, -, Sz31, Ng31, -, -⟩ := id v2_
    have pre32 : own_Go p e below S0 (s₁.setTop (mkF m 11 #[.val (.ref a1), .val (.ref a2), .val (.int 0)] [(.ref a1), (.int 0)])) := by
      intro t kt
      refine pre30 t ?_
      refine X0.arraylength hx (by rw [e0]; exact Ar31.1) (State.isArrayOf_alike hZ.alike Ar31.2.1) (g := (mkF m 3 #[.val (.ref a1), .val (.ref a2), .unset] [(.ref a2), (.int 1)])) rfl rfl (hb hby d16_3) _ ?_
      rw [len_of Sz31 Ng31]
      show Steps p.tables e below (s₁.setTop (mkF m 4 #[.val (.ref a1), .val (.ref a2), .unset] [(.int 1), (.int 1)])) _
      refine XS.icmpNo X0.here hx rfl (hb hby d16_4) rfl (teq (by decide : (1 : Int32) = (1 : Int32))).2 ?_
      refine XS.iconst X0.here hx rfl (hb hby d16_7) ?_
      show Steps p.tables e below (s₁.setTop (mkF m 8 #[.val (.ref a1), .val (.ref a2), .unset] [(.int 0)])) _
      refine XS.istoreN X0.here hx rfl (hb hby d16_8) rfl (l' := #[.val (.ref a1), .val (.ref a2), .val (.int 0)]) rfl ?_
      refine XS.iloadN X0.here hx rfl (hb hby d16_9) rfl ?_
      refine XS.aloadN X0.here hx rfl (hb hby d16_10) rfl rfl ?_
      exact kt
    obtain ⟨cl33, Ar33, -, Sz33, Ng33, -, -⟩ := id v1_
    have pre34 : own_Go p e below S0 (s₁.setTop (mkF m 17 #[.val (.ref a1), .val (.ref a2), .val (.int 0)] [(.int 0), (.ref a1)])) := by
      intro t kt
      refine pre32 t ?_
      refine X0.arraylength hx (by rw [e0]; exact Ar33.1) (State.isArrayOf_alike hZ.alike Ar33.2.1) (g := (mkF m 11 #[.val (.ref a1), .val (.ref a2), .val (.int 0)] [(.ref a1), (.int 0)])) rfl rfl (hb hby d16_11) _ ?_
      rw [len_of Sz33 Ng33]
      show Steps p.tables e below (s₁.setTop (mkF m 12 #[.val (.ref a1), .val (.ref a2), .val (.int 0)] [(.int 1), (.int 0)])) _
      refine XS.icmpNo X0.here hx rfl (hb hby d16_12) rfl (tlt (by decide : (0 : Int32) < (1 : Int32))).2.1 ?_
      refine XS.aloadN X0.here hx rfl (hb hby d16_15) rfl rfl ?_
      show Steps p.tables e below (s₁.setTop (mkF m 16 #[.val (.ref a1), .val (.ref a2), .val (.int 0)] [(.ref a1)])) _
      refine XS.iloadN X0.here hx rfl (hb hby d16_16) rfl ?_
      exact kt
    obtain ⟨cl35, Ar35, -, Sz35, -, Hs35, -⟩ := id v1_
    have hin35 : ¬ ((0 : Int32) < 0 ∨ cl35.slots.size ≤ ((0 : Int32)).toNatClampNeg) := inb_of Sz35 ⟨by decide, by decide⟩
    have pre36 : own_Go p e below S0 (s₁.setTop (mkF m 20 #[.val (.ref a1), .val (.ref a2), .val (.int 0)] [(.int 0), (.ref a2), (.int (nar .byte (x0.toInt8.toInt32)))])) := by
      intro t kt
      refine pre34 t ?_
      refine X0.baloadBytes hx (j := (0 : Int32)) (v := (.int (nar .byte (x0.toInt8.toInt32)))) (by rw [e0]; exact Ar35.1) (State.isArrayOf_alike hZ.alike Ar35.2.1) Ar35.2.2 hin35 (Hs35.at hin35 rfl) (g := (mkF m 17 #[.val (.ref a1), .val (.ref a2), .val (.int 0)] [(.int 0), (.ref a1)])) rfl rfl (hb hby d16_17) _ ?_
      refine XS.aloadN X0.here hx rfl (hb hby d16_18) rfl rfl ?_
      refine XS.iloadN X0.here hx rfl (hb hby d16_19) rfl ?_
      exact kt
    obtain ⟨cl37, Ar37, -, Sz37, -, Hs37, -⟩ := id v2_
    have hin37 : ¬ ((0 : Int32) < 0 ∨ cl37.slots.size ≤ ((0 : Int32)).toNatClampNeg) := inb_of Sz37 ⟨by decide, by decide⟩
    have pre39 : own_Go p e below S0 (s₁.setTop (mkF m 21 #[.val (.ref a1), .val (.ref a2), .val (.int 0)] [(.int (nar .byte (y0.toInt8.toInt32))), (.int (nar .byte (x0.toInt8.toInt32)))])) := by
      intro t kt
      refine pre36 t ?_
      refine X0.baloadBytes hx (j := (0 : Int32)) (v := (.int (nar .byte (y0.toInt8.toInt32)))) (by rw [e0]; exact Ar37.1) (State.isArrayOf_alike hZ.alike Ar37.2.1) Ar37.2.2 hin37 (Hs37.at hin37 rfl) (g := (mkF m 20 #[.val (.ref a1), .val (.ref a2), .val (.int 0)] [(.int 0), (.ref a2), (.int (nar .byte (x0.toInt8.toInt32)))])) rfl rfl (hb hby d16_20) _ ?_
      exact kt
    by_cases hc38 : (nar .byte (x0.toInt8.toInt32)) = (nar .byte (y0.toInt8.toInt32))
    · have pre40 : own_Go p e below S0 (s₁.setTop (mkF m 11 #[.val (.ref a1), .val (.ref a2), .val (.int 1)] [(.ref a1), (.int 1)])) := by
        intro t kt
        refine pre39 t ?_
        refine XS.icmpYes X0.here hx rfl (pc0 := 21) (pc' := 26) rfl (hb hby d16_21) rfl (teq hc38).1 (by decide) (by decide) ?_
        refine XS.iinc X0.here hx rfl (hb hby d16_26) rfl (l' := #[.val (.ref a1), .val (.ref a2), .val (.int 1)]) rfl ?_
        refine XS.goto X0.here hx rfl (pc0 := 29) (pc' := 9) rfl (hb hby d16_29) (by decide) (by decide) ?_
        refine XS.iloadN X0.here hx rfl (hb hby d16_9) rfl ?_
        show Steps p.tables e below (s₁.setTop (mkF m 10 #[.val (.ref a1), .val (.ref a2), .val (.int 1)] [(.int 1)])) _
        refine XS.aloadN X0.here hx rfl (hb hby d16_10) rfl rfl ?_
        exact kt
      obtain ⟨cl41, Ar41, -, Sz41, Ng41, -, -⟩ := id v1_
      have pre42 : own_Go p e below S0 (s₁.setTop (mkF m 33 #[.val (.ref a1), .val (.ref a2), .val (.int 1)] [(.int 1)])) := by
        intro t kt
        refine pre40 t ?_
        refine X0.arraylength hx (by rw [e0]; exact Ar41.1) (State.isArrayOf_alike hZ.alike Ar41.2.1) (g := (mkF m 11 #[.val (.ref a1), .val (.ref a2), .val (.int 1)] [(.ref a1), (.int 1)])) rfl rfl (hb hby d16_11) _ ?_
        rw [len_of Sz41 Ng41]
        show Steps p.tables e below (s₁.setTop (mkF m 12 #[.val (.ref a1), .val (.ref a2), .val (.int 1)] [(.int 1), (.int 1)])) _
        refine XS.icmpYes X0.here hx rfl (pc0 := 12) (pc' := 32) rfl (hb hby d16_12) rfl (flt (by decide : ¬ ((1 : Int32) < (1 : Int32)))).2.1 (by decide) (by decide) ?_
        refine XS.iconst X0.here hx rfl (hb hby d16_32) ?_
        show Steps p.tables e below (s₁.setTop (mkF m 33 #[.val (.ref a1), .val (.ref a2), .val (.int 1)] [(.int 1)])) _
        exact kt
      obtain ⟨fs, hr, hrun, hended, hW, hsame⟩ := X0.leave (v := some (.int 1)) (fun h => by rw [Bd.returns] at h; cases h)
      refine ⟨_, _, fin _ (pre42 _ ?_), hrun, hended, _, _, rfl, ?_, ⟨_, rfl⟩, hW, hsame.mono (by decide) (by decide)⟩
      · exact retN X0 hx (t := .boolean) Bd.returns (by simp) (hb hby d16_33) hr
      · show Qleq Z _ _ _ _ _ _ h0 n0 _ s₁.heap _
        rw [e0]
        exact ⟨(by show some (Value.int _) = some (Value.int (if own_nb x0 = own_nb y0 then 1 else 0)); rw [if_pos (show own_nb x0 = own_nb y0 from hc38)]), N0, rfl⟩
    · have pre43 : own_Go p e below S0 (s₁.setTop (mkF m 25 #[.val (.ref a1), .val (.ref a2), .val (.int 0)] [(.int 0)])) := by
        intro t kt
        refine pre39 t ?_
        refine XS.icmpNo X0.here hx rfl (hb hby d16_21) rfl (feq hc38).1 ?_
        refine XS.iconst X0.here hx rfl (hb hby d16_24) ?_
        exact kt
      obtain ⟨fs, hr, hrun, hended, hW, hsame⟩ := X0.leave (v := some (.int 0)) (fun h => by rw [Bd.returns] at h; cases h)
      refine ⟨_, _, fin _ (pre43 _ ?_), hrun, hended, _, _, rfl, ?_, ⟨_, rfl⟩, hW, hsame.mono (by decide) (by decide)⟩
      · exact retN X0 hx (t := .boolean) Bd.returns (by simp) (hb hby d16_25) hr
      · show Qleq Z _ _ _ _ _ _ h0 n0 _ s₁.heap _
        rw [e0]
        exact ⟨(by show some (Value.int _) = some (Value.int (if own_nb x0 = own_nb y0 then 1 else 0)); rw [if_neg (show ¬ own_nb x0 = own_nb y0 from hc38)]), N0, rfl⟩
  · have v1_ : Arv Z h0 a1 k1 .byte (1 : Int32) [(.int (nar .byte (x0.toInt8.toInt32)))] (.int 0) := V1
    have v2_ : Arv Z h0 a2 k2 .byte (2 : Int32) [(.int (nar .byte (y0.toInt8.toInt32))), (.int (nar .byte (y1.toInt8.toInt32)))] (.int 0) := V2
    have pre44 : own_Go p e below S0 (s₁.setTop (mkF m 1 #[.val (.ref a1), .val (.ref a2), .unset] [(.ref a1)])) := by
      intro t kt
      refine pre0 t ?_
      refine XS.aloadN X0.here hx rfl (hb hby d16_0) rfl rfl ?_
      exact kt
    obtain ⟨cl45, Ar45, -, Sz45, Ng45, -, -⟩ := id v1_
    have pre46 : own_Go p e below S0 (s₁.setTop (mkF m 3 #[.val (.ref a1), .val (.ref a2), .unset] [(.ref a2), (.int 1)])) := by
      intro t kt
      refine pre44 t ?_
      refine X0.arraylength hx (by rw [e0]; exact Ar45.1) (State.isArrayOf_alike hZ.alike Ar45.2.1) (g := (mkF m 1 #[.val (.ref a1), .val (.ref a2), .unset] [(.ref a1)])) rfl rfl (hb hby d16_1) _ ?_
      rw [len_of Sz45 Ng45]
      show Steps p.tables e below (s₁.setTop (mkF m 2 #[.val (.ref a1), .val (.ref a2), .unset] [(.int 1)])) _
      refine XS.aloadN X0.here hx rfl (hb hby d16_2) rfl rfl ?_
      exact kt
    obtain ⟨cl47, Ar47, -, Sz47, Ng47, -, -⟩ := id v2_
    have pre48 : own_Go p e below S0 (s₁.setTop (mkF m 35 #[.val (.ref a1), .val (.ref a2), .unset] [(.int 0)])) := by
      intro t kt
      refine pre46 t ?_
      refine X0.arraylength hx (by rw [e0]; exact Ar47.1) (State.isArrayOf_alike hZ.alike Ar47.2.1) (g := (mkF m 3 #[.val (.ref a1), .val (.ref a2), .unset] [(.ref a2), (.int 1)])) rfl rfl (hb hby d16_3) _ ?_
      rw [len_of Sz47 Ng47]
      show Steps p.tables e below (s₁.setTop (mkF m 4 #[.val (.ref a1), .val (.ref a2), .unset] [(.int 2), (.int 1)])) _
      refine XS.icmpYes X0.here hx rfl (pc0 := 4) (pc' := 34) rfl (hb hby d16_4) rfl (feq (by decide : ¬ ((1 : Int32) = (2 : Int32)))).2 (by decide) (by decide) ?_
      refine XS.iconst X0.here hx rfl (hb hby d16_34) ?_
      show Steps p.tables e below (s₁.setTop (mkF m 35 #[.val (.ref a1), .val (.ref a2), .unset] [(.int 0)])) _
      exact kt
    obtain ⟨fs, hr, hrun, hended, hW, hsame⟩ := X0.leave (v := some (.int 0)) (fun h => by rw [Bd.returns] at h; cases h)
    refine ⟨_, _, fin _ (pre48 _ ?_), hrun, hended, _, _, rfl, ?_, ⟨_, rfl⟩, hW, hsame.mono (by decide) (by decide)⟩
    · exact retN X0 hx (t := .boolean) Bd.returns (by simp) (hb hby d16_35) hr
    · show Qleq Z _ _ _ _ _ _ h0 n0 _ s₁.heap _
      rw [e0]
      exact ⟨(congrArg (fun q => some (Value.int q)) (own_beqNe _ _ (by simp)).symm), N0, rfl⟩
  · have v1_ : Arv Z h0 a1 k1 .byte (1 : Int32) [(.int (nar .byte (x0.toInt8.toInt32)))] (.int 0) := V1
    have v2_ : Arv Z h0 a2 k2 .byte (3 : Int32) [(.int (nar .byte (y0.toInt8.toInt32))), (.int (nar .byte (y1.toInt8.toInt32))), (.int (nar .byte (y2.toInt8.toInt32)))] (.int 0) := V2
    have pre49 : own_Go p e below S0 (s₁.setTop (mkF m 1 #[.val (.ref a1), .val (.ref a2), .unset] [(.ref a1)])) := by
      intro t kt
      refine pre0 t ?_
      refine XS.aloadN X0.here hx rfl (hb hby d16_0) rfl rfl ?_
      exact kt
    obtain ⟨cl50, Ar50, -, Sz50, Ng50, -, -⟩ := id v1_
    have pre51 : own_Go p e below S0 (s₁.setTop (mkF m 3 #[.val (.ref a1), .val (.ref a2), .unset] [(.ref a2), (.int 1)])) := by
      intro t kt
      refine pre49 t ?_
      refine X0.arraylength hx (by rw [e0]; exact Ar50.1) (State.isArrayOf_alike hZ.alike Ar50.2.1) (g := (mkF m 1 #[.val (.ref a1), .val (.ref a2), .unset] [(.ref a1)])) rfl rfl (hb hby d16_1) _ ?_
      rw [len_of Sz50 Ng50]
      show Steps p.tables e below (s₁.setTop (mkF m 2 #[.val (.ref a1), .val (.ref a2), .unset] [(.int 1)])) _
      refine XS.aloadN X0.here hx rfl (hb hby d16_2) rfl rfl ?_
      exact kt
    obtain ⟨cl52, Ar52, -, Sz52, Ng52, -, -⟩ := id v2_
    have pre53 : own_Go p e below S0 (s₁.setTop (mkF m 35 #[.val (.ref a1), .val (.ref a2), .unset] [(.int 0)])) := by
      intro t kt
      refine pre51 t ?_
      refine X0.arraylength hx (by rw [e0]; exact Ar52.1) (State.isArrayOf_alike hZ.alike Ar52.2.1) (g := (mkF m 3 #[.val (.ref a1), .val (.ref a2), .unset] [(.ref a2), (.int 1)])) rfl rfl (hb hby d16_3) _ ?_
      rw [len_of Sz52 Ng52]
      show Steps p.tables e below (s₁.setTop (mkF m 4 #[.val (.ref a1), .val (.ref a2), .unset] [(.int 3), (.int 1)])) _
      refine XS.icmpYes X0.here hx rfl (pc0 := 4) (pc' := 34) rfl (hb hby d16_4) rfl (feq (by decide : ¬ ((1 : Int32) = (3 : Int32)))).2 (by decide) (by decide) ?_
      refine XS.iconst X0.here hx rfl (hb hby d16_34) ?_
      show Steps p.tables e below (s₁.setTop (mkF m 35 #[.val (.ref a1), .val (.ref a2), .unset] [(.int 0)])) _
      exact kt
    obtain ⟨fs, hr, hrun, hended, hW, hsame⟩ := X0.leave (v := some (.int 0)) (fun h => by rw [Bd.returns] at h; cases h)
    refine ⟨_, _, fin _ (pre53 _ ?_), hrun, hended, _, _, rfl, ?_, ⟨_, rfl⟩, hW, hsame.mono (by decide) (by decide)⟩
    · exact retN X0 hx (t := .boolean) Bd.returns (by simp) (hb hby d16_35) hr
    · show Qleq Z _ _ _ _ _ _ h0 n0 _ s₁.heap _
      rw [e0]
      exact ⟨(congrArg (fun q => some (Value.int q)) (own_beqNe _ _ (by simp)).symm), N0, rfl⟩
  · have v1_ : Arv Z h0 a1 k1 .byte (2 : Int32) [(.int (nar .byte (x0.toInt8.toInt32))), (.int (nar .byte (x1.toInt8.toInt32)))] (.int 0) := V1
    have v2_ : Arv Z h0 a2 k2 .byte (0 : Int32) [] (.int 0) := V2
    have pre54 : own_Go p e below S0 (s₁.setTop (mkF m 1 #[.val (.ref a1), .val (.ref a2), .unset] [(.ref a1)])) := by
      intro t kt
      refine pre0 t ?_
      refine XS.aloadN X0.here hx rfl (hb hby d16_0) rfl rfl ?_
      exact kt
    obtain ⟨cl55, Ar55, -, Sz55, Ng55, -, -⟩ := id v1_
    have pre56 : own_Go p e below S0 (s₁.setTop (mkF m 3 #[.val (.ref a1), .val (.ref a2), .unset] [(.ref a2), (.int 2)])) := by
      intro t kt
      refine pre54 t ?_
      refine X0.arraylength hx (by rw [e0]; exact Ar55.1) (State.isArrayOf_alike hZ.alike Ar55.2.1) (g := (mkF m 1 #[.val (.ref a1), .val (.ref a2), .unset] [(.ref a1)])) rfl rfl (hb hby d16_1) _ ?_
      rw [len_of Sz55 Ng55]
      show Steps p.tables e below (s₁.setTop (mkF m 2 #[.val (.ref a1), .val (.ref a2), .unset] [(.int 2)])) _
      refine XS.aloadN X0.here hx rfl (hb hby d16_2) rfl rfl ?_
      exact kt
    obtain ⟨cl57, Ar57, -, Sz57, Ng57, -, -⟩ := id v2_
    have pre58 : own_Go p e below S0 (s₁.setTop (mkF m 35 #[.val (.ref a1), .val (.ref a2), .unset] [(.int 0)])) := by
      intro t kt
      refine pre56 t ?_
      refine X0.arraylength hx (by rw [e0]; exact Ar57.1) (State.isArrayOf_alike hZ.alike Ar57.2.1) (g := (mkF m 3 #[.val (.ref a1), .val (.ref a2), .unset] [(.ref a2), (.int 2)])) rfl rfl (hb hby d16_3) _ ?_
      rw [len_of Sz57 Ng57]
      show Steps p.tables e below (s₁.setTop (mkF m 4 #[.val (.ref a1), .val (.ref a2), .unset] [(.int 0), (.int 2)])) _
      refine XS.icmpYes X0.here hx rfl (pc0 := 4) (pc' := 34) rfl (hb hby d16_4) rfl (feq (by decide : ¬ ((2 : Int32) = (0 : Int32)))).2 (by decide) (by decide) ?_
      refine XS.iconst X0.here hx rfl (hb hby d16_34) ?_
      show Steps p.tables e below (s₁.setTop (mkF m 35 #[.val (.ref a1), .val (.ref a2), .unset] [(.int 0)])) _
      exact kt
    obtain ⟨fs, hr, hrun, hended, hW, hsame⟩ := X0.leave (v := some (.int 0)) (fun h => by rw [Bd.returns] at h; cases h)
    refine ⟨_, _, fin _ (pre58 _ ?_), hrun, hended, _, _, rfl, ?_, ⟨_, rfl⟩, hW, hsame.mono (by decide) (by decide)⟩
    · exact retN X0 hx (t := .boolean) Bd.returns (by simp) (hb hby d16_35) hr
    · show Qleq Z _ _ _ _ _ _ h0 n0 _ s₁.heap _
      rw [e0]
      exact ⟨(congrArg (fun q => some (Value.int q)) (own_beqNe _ _ (by simp)).symm), N0, rfl⟩
  · have v1_ : Arv Z h0 a1 k1 .byte (2 : Int32) [(.int (nar .byte (x0.toInt8.toInt32))), (.int (nar .byte (x1.toInt8.toInt32)))] (.int 0) := V1
    have v2_ : Arv Z h0 a2 k2 .byte (1 : Int32) [(.int (nar .byte (y0.toInt8.toInt32)))] (.int 0) := V2
    have pre59 : own_Go p e below S0 (s₁.setTop (mkF m 1 #[.val (.ref a1), .val (.ref a2), .unset] [(.ref a1)])) := by
      intro t kt
      refine pre0 t ?_
      refine XS.aloadN X0.here hx rfl (hb hby d16_0) rfl rfl ?_
      exact kt
    obtain ⟨cl60, Ar60, -, Sz60, Ng60, -, -⟩ := id v1_
    have pre61 : own_Go p e below S0 (s₁.setTop (mkF m 3 #[.val (.ref a1), .val (.ref a2), .unset] [(.ref a2), (.int 2)])) := by
      intro t kt
      refine pre59 t ?_
      refine X0.arraylength hx (by rw [e0]; exact Ar60.1) (State.isArrayOf_alike hZ.alike Ar60.2.1) (g := (mkF m 1 #[.val (.ref a1), .val (.ref a2), .unset] [(.ref a1)])) rfl rfl (hb hby d16_1) _ ?_
      rw [len_of Sz60 Ng60]
      show Steps p.tables e below (s₁.setTop (mkF m 2 #[.val (.ref a1), .val (.ref a2), .unset] [(.int 2)])) _
      refine XS.aloadN X0.here hx rfl (hb hby d16_2) rfl rfl ?_
      exact kt
    obtain ⟨cl62, Ar62, -, Sz62, Ng62, -, -⟩ := id v2_
    have pre63 : own_Go p e below S0 (s₁.setTop (mkF m 35 #[.val (.ref a1), .val (.ref a2), .unset] [(.int 0)])) := by
      intro t kt
      refine pre61 t ?_
      refine X0.arraylength hx (by rw [e0]; exact Ar62.1) (State.isArrayOf_alike hZ.alike Ar62.2.1) (g := (mkF m 3 #[.val (.ref a1), .val (.ref a2), .unset] [(.ref a2), (.int 2)])) rfl rfl (hb hby d16_3) _ ?_
      rw [len_of Sz62 Ng62]
      show Steps p.tables e below (s₁.setTop (mkF m 4 #[.val (.ref a1), .val (.ref a2), .unset] [(.int 1), (.int 2)])) _
      refine XS.icmpYes X0.here hx rfl (pc0 := 4) (pc' := 34) rfl (hb hby d16_4) rfl (feq (by decide : ¬ ((2 : Int32) = (1 : Int32)))).2 (by decide) (by decide) ?_
      refine XS.iconst X0.here hx rfl (hb hby d16_34) ?_
      show Steps p.tables e below (s₁.setTop (mkF m 35 #[.val (.ref a1), .val (.ref a2), .unset] [(.int 0)])) _
      exact kt
    obtain ⟨fs, hr, hrun, hended, hW, hsame⟩ := X0.leave (v := some (.int 0)) (fun h => by rw [Bd.returns] at h; cases h)
    refine ⟨_, _, fin _ (pre63 _ ?_), hrun, hended, _, _, rfl, ?_, ⟨_, rfl⟩, hW, hsame.mono (by decide) (by decide)⟩
    · exact retN X0 hx (t := .boolean) Bd.returns (by simp) (hb hby d16_35) hr
    · show Qleq Z _ _ _ _ _ _ h0 n0 _ s₁.heap _
      rw [e0]
      exact ⟨(congrArg (fun q => some (Value.int q)) (own_beqNe _ _ (by simp)).symm), N0, rfl⟩
  · have v1_ : Arv Z h0 a1 k1 .byte (2 : Int32) [(.int (nar .byte (x0.toInt8.toInt32))), (.int (nar .byte (x1.toInt8.toInt32)))] (.int 0) := V1
    have v2_ : Arv Z h0 a2 k2 .byte (2 : Int32) [(.int (nar .byte (y0.toInt8.toInt32))), (.int (nar .byte (y1.toInt8.toInt32)))] (.int 0) := V2
    have pre64 : own_Go p e below S0 (s₁.setTop (mkF m 1 #[.val (.ref a1), .val (.ref a2), .unset] [(.ref a1)])) := by
      intro t kt
      refine pre0 t ?_
      refine XS.aloadN X0.here hx rfl (hb hby d16_0) rfl rfl ?_
      exact kt
    obtain ⟨cl65, Ar65, -, Sz65, Ng65, -, -⟩ := id v1_
    have pre66 : own_Go p e below S0 (s₁.setTop (mkF m 3 #[.val (.ref a1), .val (.ref a2), .unset] [(.ref a2), (.int 2)])) := by
      intro t kt
      refine pre64 t ?_
      refine X0.arraylength hx (by rw [e0]; exact Ar65.1) (State.isArrayOf_alike hZ.alike Ar65.2.1) (g := (mkF m 1 #[.val (.ref a1), .val (.ref a2), .unset] [(.ref a1)])) rfl rfl (hb hby d16_1) _ ?_
      rw [len_of Sz65 Ng65]
      show Steps p.tables e below (s₁.setTop (mkF m 2 #[.val (.ref a1), .val (.ref a2), .unset] [(.int 2)])) _
      refine XS.aloadN X0.here hx rfl (hb hby d16_2) rfl rfl ?_
      exact kt
    obtain ⟨cl67, Ar67, -, Sz67, Ng67, -, -⟩ := id v2_
    have pre68 : own_Go p e below S0 (s₁.setTop (mkF m 11 #[.val (.ref a1), .val (.ref a2), .val (.int 0)] [(.ref a1), (.int 0)])) := by
      intro t kt
      refine pre66 t ?_
      refine X0.arraylength hx (by rw [e0]; exact Ar67.1) (State.isArrayOf_alike hZ.alike Ar67.2.1) (g := (mkF m 3 #[.val (.ref a1), .val (.ref a2), .unset] [(.ref a2), (.int 2)])) rfl rfl (hb hby d16_3) _ ?_
      rw [len_of Sz67 Ng67]
      show Steps p.tables e below (s₁.setTop (mkF m 4 #[.val (.ref a1), .val (.ref a2), .unset] [(.int 2), (.int 2)])) _
      refine XS.icmpNo X0.here hx rfl (hb hby d16_4) rfl (teq (by decide : (2 : Int32) = (2 : Int32))).2 ?_
      refine XS.iconst X0.here hx rfl (hb hby d16_7) ?_
      show Steps p.tables e below (s₁.setTop (mkF m 8 #[.val (.ref a1), .val (.ref a2), .unset] [(.int 0)])) _
      refine XS.istoreN X0.here hx rfl (hb hby d16_8) rfl (l' := #[.val (.ref a1), .val (.ref a2), .val (.int 0)]) rfl ?_
      refine XS.iloadN X0.here hx rfl (hb hby d16_9) rfl ?_
      refine XS.aloadN X0.here hx rfl (hb hby d16_10) rfl rfl ?_
      exact kt
    obtain ⟨cl69, Ar69, -, Sz69, Ng69, -, -⟩ := id v1_
    have pre70 : own_Go p e below S0 (s₁.setTop (mkF m 17 #[.val (.ref a1), .val (.ref a2), .val (.int 0)] [(.int 0), (.ref a1)])) := by
      intro t kt
      refine pre68 t ?_
      refine X0.arraylength hx (by rw [e0]; exact Ar69.1) (State.isArrayOf_alike hZ.alike Ar69.2.1) (g := (mkF m 11 #[.val (.ref a1), .val (.ref a2), .val (.int 0)] [(.ref a1), (.int 0)])) rfl rfl (hb hby d16_11) _ ?_
      rw [len_of Sz69 Ng69]
      show Steps p.tables e below (s₁.setTop (mkF m 12 #[.val (.ref a1), .val (.ref a2), .val (.int 0)] [(.int 2), (.int 0)])) _
      refine XS.icmpNo X0.here hx rfl (hb hby d16_12) rfl (tlt (by decide : (0 : Int32) < (2 : Int32))).2.1 ?_
      refine XS.aloadN X0.here hx rfl (hb hby d16_15) rfl rfl ?_
      show Steps p.tables e below (s₁.setTop (mkF m 16 #[.val (.ref a1), .val (.ref a2), .val (.int 0)] [(.ref a1)])) _
      refine XS.iloadN X0.here hx rfl (hb hby d16_16) rfl ?_
      exact kt
    obtain ⟨cl71, Ar71, -, Sz71, -, Hs71, -⟩ := id v1_
    have hin71 : ¬ ((0 : Int32) < 0 ∨ cl71.slots.size ≤ ((0 : Int32)).toNatClampNeg) := inb_of Sz71 ⟨by decide, by decide⟩
    have pre72 : own_Go p e below S0 (s₁.setTop (mkF m 20 #[.val (.ref a1), .val (.ref a2), .val (.int 0)] [(.int 0), (.ref a2), (.int (nar .byte (x0.toInt8.toInt32)))])) := by
      intro t kt
      refine pre70 t ?_
      refine X0.baloadBytes hx (j := (0 : Int32)) (v := (.int (nar .byte (x0.toInt8.toInt32)))) (by rw [e0]; exact Ar71.1) (State.isArrayOf_alike hZ.alike Ar71.2.1) Ar71.2.2 hin71 (Hs71.at hin71 rfl) (g := (mkF m 17 #[.val (.ref a1), .val (.ref a2), .val (.int 0)] [(.int 0), (.ref a1)])) rfl rfl (hb hby d16_17) _ ?_
      refine XS.aloadN X0.here hx rfl (hb hby d16_18) rfl rfl ?_
      refine XS.iloadN X0.here hx rfl (hb hby d16_19) rfl ?_
      exact kt
    obtain ⟨cl73, Ar73, -, Sz73, -, Hs73, -⟩ := id v2_
    have hin73 : ¬ ((0 : Int32) < 0 ∨ cl73.slots.size ≤ ((0 : Int32)).toNatClampNeg) := inb_of Sz73 ⟨by decide, by decide⟩
    have pre75 : own_Go p e below S0 (s₁.setTop (mkF m 21 #[.val (.ref a1), .val (.ref a2), .val (.int 0)] [(.int (nar .byte (y0.toInt8.toInt32))), (.int (nar .byte (x0.toInt8.toInt32)))])) := by
      intro t kt
      refine pre72 t ?_
      refine X0.baloadBytes hx (j := (0 : Int32)) (v := (.int (nar .byte (y0.toInt8.toInt32)))) (by rw [e0]; exact Ar73.1) (State.isArrayOf_alike hZ.alike Ar73.2.1) Ar73.2.2 hin73 (Hs73.at hin73 rfl) (g := (mkF m 20 #[.val (.ref a1), .val (.ref a2), .val (.int 0)] [(.int 0), (.ref a2), (.int (nar .byte (x0.toInt8.toInt32)))])) rfl rfl (hb hby d16_20) _ ?_
      exact kt
    by_cases hc74 : (nar .byte (x0.toInt8.toInt32)) = (nar .byte (y0.toInt8.toInt32))
    · have pre76 : own_Go p e below S0 (s₁.setTop (mkF m 11 #[.val (.ref a1), .val (.ref a2), .val (.int 1)] [(.ref a1), (.int 1)])) := by
        intro t kt
        refine pre75 t ?_
        refine XS.icmpYes X0.here hx rfl (pc0 := 21) (pc' := 26) rfl (hb hby d16_21) rfl (teq hc74).1 (by decide) (by decide) ?_
        refine XS.iinc X0.here hx rfl (hb hby d16_26) rfl (l' := #[.val (.ref a1), .val (.ref a2), .val (.int 1)]) rfl ?_
        refine XS.goto X0.here hx rfl (pc0 := 29) (pc' := 9) rfl (hb hby d16_29) (by decide) (by decide) ?_
        refine XS.iloadN X0.here hx rfl (hb hby d16_9) rfl ?_
        show Steps p.tables e below (s₁.setTop (mkF m 10 #[.val (.ref a1), .val (.ref a2), .val (.int 1)] [(.int 1)])) _
        refine XS.aloadN X0.here hx rfl (hb hby d16_10) rfl rfl ?_
        exact kt
      obtain ⟨cl77, Ar77, -, Sz77, Ng77, -, -⟩ := id v1_
      have pre78 : own_Go p e below S0 (s₁.setTop (mkF m 17 #[.val (.ref a1), .val (.ref a2), .val (.int 1)] [(.int 1), (.ref a1)])) := by
        intro t kt
        refine pre76 t ?_
        refine X0.arraylength hx (by rw [e0]; exact Ar77.1) (State.isArrayOf_alike hZ.alike Ar77.2.1) (g := (mkF m 11 #[.val (.ref a1), .val (.ref a2), .val (.int 1)] [(.ref a1), (.int 1)])) rfl rfl (hb hby d16_11) _ ?_
        rw [len_of Sz77 Ng77]
        show Steps p.tables e below (s₁.setTop (mkF m 12 #[.val (.ref a1), .val (.ref a2), .val (.int 1)] [(.int 2), (.int 1)])) _
        refine XS.icmpNo X0.here hx rfl (hb hby d16_12) rfl (tlt (by decide : (1 : Int32) < (2 : Int32))).2.1 ?_
        refine XS.aloadN X0.here hx rfl (hb hby d16_15) rfl rfl ?_
        show Steps p.tables e below (s₁.setTop (mkF m 16 #[.val (.ref a1), .val (.ref a2), .val (.int 1)] [(.ref a1)])) _
        refine XS.iloadN X0.here hx rfl (hb hby d16_16) rfl ?_
        exact kt
      obtain ⟨cl79, Ar79, -, Sz79, -, Hs79, -⟩ := id v1_
      have hin79 : ¬ ((1 : Int32) < 0 ∨ cl79.slots.size ≤ ((1 : Int32)).toNatClampNeg) := inb_of Sz79 ⟨by decide, by decide⟩
      have pre80 : own_Go p e below S0 (s₁.setTop (mkF m 20 #[.val (.ref a1), .val (.ref a2), .val (.int 1)] [(.int 1), (.ref a2), (.int (nar .byte (x1.toInt8.toInt32)))])) := by
        intro t kt
        refine pre78 t ?_
        refine X0.baloadBytes hx (j := (1 : Int32)) (v := (.int (nar .byte (x1.toInt8.toInt32)))) (by rw [e0]; exact Ar79.1) (State.isArrayOf_alike hZ.alike Ar79.2.1) Ar79.2.2 hin79 (Hs79.at hin79 rfl) (g := (mkF m 17 #[.val (.ref a1), .val (.ref a2), .val (.int 1)] [(.int 1), (.ref a1)])) rfl rfl (hb hby d16_17) _ ?_
        refine XS.aloadN X0.here hx rfl (hb hby d16_18) rfl rfl ?_
        refine XS.iloadN X0.here hx rfl (hb hby d16_19) rfl ?_
        exact kt
      obtain ⟨cl81, Ar81, -, Sz81, -, Hs81, -⟩ := id v2_
      have hin81 : ¬ ((1 : Int32) < 0 ∨ cl81.slots.size ≤ ((1 : Int32)).toNatClampNeg) := inb_of Sz81 ⟨by decide, by decide⟩
      have pre83 : own_Go p e below S0 (s₁.setTop (mkF m 21 #[.val (.ref a1), .val (.ref a2), .val (.int 1)] [(.int (nar .byte (y1.toInt8.toInt32))), (.int (nar .byte (x1.toInt8.toInt32)))])) := by
        intro t kt
        refine pre80 t ?_
        refine X0.baloadBytes hx (j := (1 : Int32)) (v := (.int (nar .byte (y1.toInt8.toInt32)))) (by rw [e0]; exact Ar81.1) (State.isArrayOf_alike hZ.alike Ar81.2.1) Ar81.2.2 hin81 (Hs81.at hin81 rfl) (g := (mkF m 20 #[.val (.ref a1), .val (.ref a2), .val (.int 1)] [(.int 1), (.ref a2), (.int (nar .byte (x1.toInt8.toInt32)))])) rfl rfl (hb hby d16_20) _ ?_
        exact kt
      by_cases hc82 : (nar .byte (x1.toInt8.toInt32)) = (nar .byte (y1.toInt8.toInt32))
      · have pre84 : own_Go p e below S0 (s₁.setTop (mkF m 11 #[.val (.ref a1), .val (.ref a2), .val (.int 2)] [(.ref a1), (.int 2)])) := by
          intro t kt
          refine pre83 t ?_
          refine XS.icmpYes X0.here hx rfl (pc0 := 21) (pc' := 26) rfl (hb hby d16_21) rfl (teq hc82).1 (by decide) (by decide) ?_
          refine XS.iinc X0.here hx rfl (hb hby d16_26) rfl (l' := #[.val (.ref a1), .val (.ref a2), .val (.int 2)]) rfl ?_
          refine XS.goto X0.here hx rfl (pc0 := 29) (pc' := 9) rfl (hb hby d16_29) (by decide) (by decide) ?_
          refine XS.iloadN X0.here hx rfl (hb hby d16_9) rfl ?_
          show Steps p.tables e below (s₁.setTop (mkF m 10 #[.val (.ref a1), .val (.ref a2), .val (.int 2)] [(.int 2)])) _
          refine XS.aloadN X0.here hx rfl (hb hby d16_10) rfl rfl ?_
          exact kt
        obtain ⟨cl85, Ar85, -, Sz85, Ng85, -, -⟩ := id v1_
        have pre86 : own_Go p e below S0 (s₁.setTop (mkF m 33 #[.val (.ref a1), .val (.ref a2), .val (.int 2)] [(.int 1)])) := by
          intro t kt
          refine pre84 t ?_
          refine X0.arraylength hx (by rw [e0]; exact Ar85.1) (State.isArrayOf_alike hZ.alike Ar85.2.1) (g := (mkF m 11 #[.val (.ref a1), .val (.ref a2), .val (.int 2)] [(.ref a1), (.int 2)])) rfl rfl (hb hby d16_11) _ ?_
          rw [len_of Sz85 Ng85]
          show Steps p.tables e below (s₁.setTop (mkF m 12 #[.val (.ref a1), .val (.ref a2), .val (.int 2)] [(.int 2), (.int 2)])) _
          refine XS.icmpYes X0.here hx rfl (pc0 := 12) (pc' := 32) rfl (hb hby d16_12) rfl (flt (by decide : ¬ ((2 : Int32) < (2 : Int32)))).2.1 (by decide) (by decide) ?_
          refine XS.iconst X0.here hx rfl (hb hby d16_32) ?_
          show Steps p.tables e below (s₁.setTop (mkF m 33 #[.val (.ref a1), .val (.ref a2), .val (.int 2)] [(.int 1)])) _
          exact kt
        obtain ⟨fs, hr, hrun, hended, hW, hsame⟩ := X0.leave (v := some (.int 1)) (fun h => by rw [Bd.returns] at h; cases h)
        refine ⟨_, _, fin _ (pre86 _ ?_), hrun, hended, _, _, rfl, ?_, ⟨_, rfl⟩, hW, hsame.mono (by decide) (by decide)⟩
        · exact retN X0 hx (t := .boolean) Bd.returns (by simp) (hb hby d16_33) hr
        · show Qleq Z _ _ _ _ _ _ h0 n0 _ s₁.heap _
          rw [e0]
          exact ⟨(by show some (Value.int _) = some (Value.int (if own_nb x0 = own_nb y0 then (if own_nb x1 = own_nb y1 then 1 else 0) else 0)); rw [if_pos (show own_nb x0 = own_nb y0 from hc74), if_pos (show own_nb x1 = own_nb y1 from hc82)]), N0, rfl⟩
      · have pre87 : own_Go p e below S0 (s₁.setTop (mkF m 25 #[.val (.ref a1), .val (.ref a2), .val (.int 1)] [(.int 0)])) := by
          intro t kt
          refine pre83 t ?_
          refine XS.icmpNo X0.here hx rfl (hb hby d16_21) rfl (feq hc82).1 ?_
          refine XS.iconst X0.here hx rfl (hb hby d16_24) ?_
          exact kt
        obtain ⟨fs, hr, hrun, hended, hW, hsame⟩ := X0.leave (v := some (.int 0)) (fun h => by rw [Bd.returns] at h; cases h)
        refine ⟨_, _, fin _ (pre87 _ ?_), hrun, hended, _, _, rfl, ?_, ⟨_, rfl⟩, hW, hsame.mono (by decide) (by decide)⟩
        · exact retN X0 hx (t := .boolean) Bd.returns (by simp) (hb hby d16_25) hr
        · show Qleq Z _ _ _ _ _ _ h0 n0 _ s₁.heap _
          rw [e0]
          exact ⟨(by show some (Value.int _) = some (Value.int (if own_nb x0 = own_nb y0 then (if own_nb x1 = own_nb y1 then 1 else 0) else 0)); rw [if_pos (show own_nb x0 = own_nb y0 from hc74), if_neg (show ¬ own_nb x1 = own_nb y1 from hc82)]), N0, rfl⟩
    · have pre88 : own_Go p e below S0 (s₁.setTop (mkF m 25 #[.val (.ref a1), .val (.ref a2), .val (.int 0)] [(.int 0)])) := by
        intro t kt
        refine pre75 t ?_
        refine XS.icmpNo X0.here hx rfl (hb hby d16_21) rfl (feq hc74).1 ?_
        refine XS.iconst X0.here hx rfl (hb hby d16_24) ?_
        exact kt
      obtain ⟨fs, hr, hrun, hended, hW, hsame⟩ := X0.leave (v := some (.int 0)) (fun h => by rw [Bd.returns] at h; cases h)
      refine ⟨_, _, fin _ (pre88 _ ?_), hrun, hended, _, _, rfl, ?_, ⟨_, rfl⟩, hW, hsame.mono (by decide) (by decide)⟩
      · exact retN X0 hx (t := .boolean) Bd.returns (by simp) (hb hby d16_25) hr
      · show Qleq Z _ _ _ _ _ _ h0 n0 _ s₁.heap _
        rw [e0]
        exact ⟨(by show some (Value.int _) = some (Value.int (if own_nb x0 = own_nb y0 then (if own_nb x1 = own_nb y1 then 1 else 0) else 0)); rw [if_neg (show ¬ own_nb x0 = own_nb y0 from hc74)]), N0, rfl⟩
  · have v1_ : Arv Z h0 a1 k1 .byte (2 : Int32) [(.int (nar .byte (x0.toInt8.toInt32))), (.int (nar .byte (x1.toInt8.toInt32)))] (.int 0) := V1
    have v2_ : Arv Z h0 a2 k2 .byte (3 : Int32) [(.int (nar .byte (y0.toInt8.toInt32))), (.int (nar .byte (y1.toInt8.toInt32))), (.int (nar .byte (y2.toInt8.toInt32)))] (.int 0) := V2
    have pre89 : own_Go p e below S0 (s₁.setTop (mkF m 1 #[.val (.ref a1), .val (.ref a2), .unset] [(.ref a1)])) := by
      intro t kt
      refine pre0 t ?_
      refine XS.aloadN X0.here hx rfl (hb hby d16_0) rfl rfl ?_
      exact kt
    obtain ⟨cl90, Ar90, -, Sz90, Ng90, -, -⟩ := id v1_
    have pre91 : own_Go p e below S0 (s₁.setTop (mkF m 3 #[.val (.ref a1), .val (.ref a2), .unset] [(.ref a2), (.int 2)])) := by
      intro t kt
      refine pre89 t ?_
      refine X0.arraylength hx (by rw [e0]; exact Ar90.1) (State.isArrayOf_alike hZ.alike Ar90.2.1) (g := (mkF m 1 #[.val (.ref a1), .val (.ref a2), .unset] [(.ref a1)])) rfl rfl (hb hby d16_1) _ ?_
      rw [len_of Sz90 Ng90]
      show Steps p.tables e below (s₁.setTop (mkF m 2 #[.val (.ref a1), .val (.ref a2), .unset] [(.int 2)])) _
      refine XS.aloadN X0.here hx rfl (hb hby d16_2) rfl rfl ?_
      exact kt
    obtain ⟨cl92, Ar92, -, Sz92, Ng92, -, -⟩ := id v2_
    have pre93 : own_Go p e below S0 (s₁.setTop (mkF m 35 #[.val (.ref a1), .val (.ref a2), .unset] [(.int 0)])) := by
      intro t kt
      refine pre91 t ?_
      refine X0.arraylength hx (by rw [e0]; exact Ar92.1) (State.isArrayOf_alike hZ.alike Ar92.2.1) (g := (mkF m 3 #[.val (.ref a1), .val (.ref a2), .unset] [(.ref a2), (.int 2)])) rfl rfl (hb hby d16_3) _ ?_
      rw [len_of Sz92 Ng92]
      show Steps p.tables e below (s₁.setTop (mkF m 4 #[.val (.ref a1), .val (.ref a2), .unset] [(.int 3), (.int 2)])) _
      refine XS.icmpYes X0.here hx rfl (pc0 := 4) (pc' := 34) rfl (hb hby d16_4) rfl (feq (by decide : ¬ ((2 : Int32) = (3 : Int32)))).2 (by decide) (by decide) ?_
      refine XS.iconst X0.here hx rfl (hb hby d16_34) ?_
      show Steps p.tables e below (s₁.setTop (mkF m 35 #[.val (.ref a1), .val (.ref a2), .unset] [(.int 0)])) _
      exact kt
    obtain ⟨fs, hr, hrun, hended, hW, hsame⟩ := X0.leave (v := some (.int 0)) (fun h => by rw [Bd.returns] at h; cases h)
    refine ⟨_, _, fin _ (pre93 _ ?_), hrun, hended, _, _, rfl, ?_, ⟨_, rfl⟩, hW, hsame.mono (by decide) (by decide)⟩
    · exact retN X0 hx (t := .boolean) Bd.returns (by simp) (hb hby d16_35) hr
    · show Qleq Z _ _ _ _ _ _ h0 n0 _ s₁.heap _
      rw [e0]
      exact ⟨(congrArg (fun q => some (Value.int q)) (own_beqNe _ _ (by simp)).symm), N0, rfl⟩
  · have v1_ : Arv Z h0 a1 k1 .byte (3 : Int32) [(.int (nar .byte (x0.toInt8.toInt32))), (.int (nar .byte (x1.toInt8.toInt32))), (.int (nar .byte (x2.toInt8.toInt32)))] (.int 0) := V1
    have v2_ : Arv Z h0 a2 k2 .byte (0 : Int32) [] (.int 0) := V2
    have pre94 : own_Go p e below S0 (s₁.setTop (mkF m 1 #[.val (.ref a1), .val (.ref a2), .unset] [(.ref a1)])) := by
      intro t kt
      refine pre0 t ?_
      refine XS.aloadN X0.here hx rfl (hb hby d16_0) rfl rfl ?_
      exact kt
    obtain ⟨cl95, Ar95, -, Sz95, Ng95, -, -⟩ := id v1_
    have pre96 : own_Go p e below S0 (s₁.setTop (mkF m 3 #[.val (.ref a1), .val (.ref a2), .unset] [(.ref a2), (.int 3)])) := by
      intro t kt
      refine pre94 t ?_
      refine X0.arraylength hx (by rw [e0]; exact Ar95.1) (State.isArrayOf_alike hZ.alike Ar95.2.1) (g := (mkF m 1 #[.val (.ref a1), .val (.ref a2), .unset] [(.ref a1)])) rfl rfl (hb hby d16_1) _ ?_
      rw [len_of Sz95 Ng95]
      show Steps p.tables e below (s₁.setTop (mkF m 2 #[.val (.ref a1), .val (.ref a2), .unset] [(.int 3)])) _
      refine XS.aloadN X0.here hx rfl (hb hby d16_2) rfl rfl ?_
      exact kt
    obtain ⟨cl97, Ar97, -, Sz97, Ng97, -, -⟩ := id v2_
    have pre98 : own_Go p e below S0 (s₁.setTop (mkF m 35 #[.val (.ref a1), .val (.ref a2), .unset] [(.int 0)])) := by
      intro t kt
      refine pre96 t ?_
      refine X0.arraylength hx (by rw [e0]; exact Ar97.1) (State.isArrayOf_alike hZ.alike Ar97.2.1) (g := (mkF m 3 #[.val (.ref a1), .val (.ref a2), .unset] [(.ref a2), (.int 3)])) rfl rfl (hb hby d16_3) _ ?_
      rw [len_of Sz97 Ng97]
      show Steps p.tables e below (s₁.setTop (mkF m 4 #[.val (.ref a1), .val (.ref a2), .unset] [(.int 0), (.int 3)])) _
      refine XS.icmpYes X0.here hx rfl (pc0 := 4) (pc' := 34) rfl (hb hby d16_4) rfl (feq (by decide : ¬ ((3 : Int32) = (0 : Int32)))).2 (by decide) (by decide) ?_
      refine XS.iconst X0.here hx rfl (hb hby d16_34) ?_
      show Steps p.tables e below (s₁.setTop (mkF m 35 #[.val (.ref a1), .val (.ref a2), .unset] [(.int 0)])) _
      exact kt
    obtain ⟨fs, hr, hrun, hended, hW, hsame⟩ := X0.leave (v := some (.int 0)) (fun h => by rw [Bd.returns] at h; cases h)
    refine ⟨_, _, fin _ (pre98 _ ?_), hrun, hended, _, _, rfl, ?_, ⟨_, rfl⟩, hW, hsame.mono (by decide) (by decide)⟩
    · exact retN X0 hx (t := .boolean) Bd.returns (by simp) (hb hby d16_35) hr
    · show Qleq Z _ _ _ _ _ _ h0 n0 _ s₁.heap _
      rw [e0]
      exact ⟨(congrArg (fun q => some (Value.int q)) (own_beqNe _ _ (by simp)).symm), N0, rfl⟩
  · have v1_ : Arv Z h0 a1 k1 .byte (3 : Int32) [(.int (nar .byte (x0.toInt8.toInt32))), (.int (nar .byte (x1.toInt8.toInt32))), (.int (nar .byte (x2.toInt8.toInt32)))] (.int 0) := V1
    have v2_ : Arv Z h0 a2 k2 .byte (1 : Int32) [(.int (nar .byte (y0.toInt8.toInt32)))] (.int 0) := V2
    have pre99 : own_Go p e below S0 (s₁.setTop (mkF m 1 #[.val (.ref a1), .val (.ref a2), .unset] [(.ref a1)])) := by
      intro t kt
      refine pre0 t ?_
      refine XS.aloadN X0.here hx rfl (hb hby d16_0) rfl rfl ?_
      exact kt
    obtain ⟨cl100, Ar100, -, Sz100, Ng100, -, -⟩ := id v1_
    have pre101 : own_Go p e below S0 (s₁.setTop (mkF m 3 #[.val (.ref a1), .val (.ref a2), .unset] [(.ref a2), (.int 3)])) := by
      intro t kt
      refine pre99 t ?_
      refine X0.arraylength hx (by rw [e0]; exact Ar100.1) (State.isArrayOf_alike hZ.alike Ar100.2.1) (g := (mkF m 1 #[.val (.ref a1), .val (.ref a2), .unset] [(.ref a1)])) rfl rfl (hb hby d16_1) _ ?_
      rw [len_of Sz100 Ng100]
      show Steps p.tables e below (s₁.setTop (mkF m 2 #[.val (.ref a1), .val (.ref a2), .unset] [(.int 3)])) _
      refine XS.aloadN X0.here hx rfl (hb hby d16_2) rfl rfl ?_
      exact kt
    obtain ⟨cl102, Ar102, -, Sz102, Ng102, -, -⟩ := id v2_
    have pre103 : own_Go p e below S0 (s₁.setTop (mkF m 35 #[.val (.ref a1), .val (.ref a2), .unset] [(.int 0)])) := by
      intro t kt
      refine pre101 t ?_
      refine X0.arraylength hx (by rw [e0]; exact Ar102.1) (State.isArrayOf_alike hZ.alike Ar102.2.1) (g := (mkF m 3 #[.val (.ref a1), .val (.ref a2), .unset] [(.ref a2), (.int 3)])) rfl rfl (hb hby d16_3) _ ?_
      rw [len_of Sz102 Ng102]
      show Steps p.tables e below (s₁.setTop (mkF m 4 #[.val (.ref a1), .val (.ref a2), .unset] [(.int 1), (.int 3)])) _
      refine XS.icmpYes X0.here hx rfl (pc0 := 4) (pc' := 34) rfl (hb hby d16_4) rfl (feq (by decide : ¬ ((3 : Int32) = (1 : Int32)))).2 (by decide) (by decide) ?_
      refine XS.iconst X0.here hx rfl (hb hby d16_34) ?_
      show Steps p.tables e below (s₁.setTop (mkF m 35 #[.val (.ref a1), .val (.ref a2), .unset] [(.int 0)])) _
      exact kt
    obtain ⟨fs, hr, hrun, hended, hW, hsame⟩ := X0.leave (v := some (.int 0)) (fun h => by rw [Bd.returns] at h; cases h)
    refine ⟨_, _, fin _ (pre103 _ ?_), hrun, hended, _, _, rfl, ?_, ⟨_, rfl⟩, hW, hsame.mono (by decide) (by decide)⟩
    · exact retN X0 hx (t := .boolean) Bd.returns (by simp) (hb hby d16_35) hr
    · show Qleq Z _ _ _ _ _ _ h0 n0 _ s₁.heap _
      rw [e0]
      exact ⟨(congrArg (fun q => some (Value.int q)) (own_beqNe _ _ (by simp)).symm), N0, rfl⟩
  · have v1_ : Arv Z h0 a1 k1 .byte (3 : Int32) [(.int (nar .byte (x0.toInt8.toInt32))), (.int (nar .byte (x1.toInt8.toInt32))), (.int (nar .byte (x2.toInt8.toInt32)))] (.int 0) := V1
    have v2_ : Arv Z h0 a2 k2 .byte (2 : Int32) [(.int (nar .byte (y0.toInt8.toInt32))), (.int (nar .byte (y1.toInt8.toInt32)))] (.int 0) := V2
    have pre104 : own_Go p e below S0 (s₁.setTop (mkF m 1 #[.val (.ref a1), .val (.ref a2), .unset] [(.ref a1)])) := by
      intro t kt
      refine pre0 t ?_
      refine XS.aloadN X0.here hx rfl (hb hby d16_0) rfl rfl ?_
      exact kt
    obtain ⟨cl105, Ar105, -, Sz105, Ng105, -, -⟩ := id v1_
    have pre106 : own_Go p e below S0 (s₁.setTop (mkF m 3 #[.val (.ref a1), .val (.ref a2), .unset] [(.ref a2), (.int 3)])) := by
      intro t kt
      refine pre104 t ?_
      refine X0.arraylength hx (by rw [e0]; exact Ar105.1) (State.isArrayOf_alike hZ.alike Ar105.2.1) (g := (mkF m 1 #[.val (.ref a1), .val (.ref a2), .unset] [(.ref a1)])) rfl rfl (hb hby d16_1) _ ?_
      rw [len_of Sz105 Ng105]
      show Steps p.tables e below (s₁.setTop (mkF m 2 #[.val (.ref a1), .val (.ref a2), .unset] [(.int 3)])) _
      refine XS.aloadN X0.here hx rfl (hb hby d16_2) rfl rfl ?_
      exact kt
    obtain ⟨cl107, Ar107, -, Sz107, Ng107, -, -⟩ := id v2_
    have pre108 : own_Go p e below S0 (s₁.setTop (mkF m 35 #[.val (.ref a1), .val (.ref a2), .unset] [(.int 0)])) := by
      intro t kt
      refine pre106 t ?_
      refine X0.arraylength hx (by rw [e0]; exact Ar107.1) (State.isArrayOf_alike hZ.alike Ar107.2.1) (g := (mkF m 3 #[.val (.ref a1), .val (.ref a2), .unset] [(.ref a2), (.int 3)])) rfl rfl (hb hby d16_3) _ ?_
      rw [len_of Sz107 Ng107]
      show Steps p.tables e below (s₁.setTop (mkF m 4 #[.val (.ref a1), .val (.ref a2), .unset] [(.int 2), (.int 3)])) _
      refine XS.icmpYes X0.here hx rfl (pc0 := 4) (pc' := 34) rfl (hb hby d16_4) rfl (feq (by decide : ¬ ((3 : Int32) = (2 : Int32)))).2 (by decide) (by decide) ?_
      refine XS.iconst X0.here hx rfl (hb hby d16_34) ?_
      show Steps p.tables e below (s₁.setTop (mkF m 35 #[.val (.ref a1), .val (.ref a2), .unset] [(.int 0)])) _
      exact kt
    obtain ⟨fs, hr, hrun, hended, hW, hsame⟩ := X0.leave (v := some (.int 0)) (fun h => by rw [Bd.returns] at h; cases h)
    refine ⟨_, _, fin _ (pre108 _ ?_), hrun, hended, _, _, rfl, ?_, ⟨_, rfl⟩, hW, hsame.mono (by decide) (by decide)⟩
    · exact retN X0 hx (t := .boolean) Bd.returns (by simp) (hb hby d16_35) hr
    · show Qleq Z _ _ _ _ _ _ h0 n0 _ s₁.heap _
      rw [e0]
      exact ⟨(congrArg (fun q => some (Value.int q)) (own_beqNe _ _ (by simp)).symm), N0, rfl⟩
  · have v1_ : Arv Z h0 a1 k1 .byte (3 : Int32) [(.int (nar .byte (x0.toInt8.toInt32))), (.int (nar .byte (x1.toInt8.toInt32))), (.int (nar .byte (x2.toInt8.toInt32)))] (.int 0) := V1
    have v2_ : Arv Z h0 a2 k2 .byte (3 : Int32) [(.int (nar .byte (y0.toInt8.toInt32))), (.int (nar .byte (y1.toInt8.toInt32))), (.int (nar .byte (y2.toInt8.toInt32)))] (.int 0) := V2
    have pre109 : own_Go p e below S0 (s₁.setTop (mkF m 1 #[.val (.ref a1), .val (.ref a2), .unset] [(.ref a1)])) := by
      intro t kt
      refine pre0 t ?_
      refine XS.aloadN X0.here hx rfl (hb hby d16_0) rfl rfl ?_
      exact kt
    obtain ⟨cl110, Ar110, -, Sz110, Ng110, -, -⟩ := id v1_
    have pre111 : own_Go p e below S0 (s₁.setTop (mkF m 3 #[.val (.ref a1), .val (.ref a2), .unset] [(.ref a2), (.int 3)])) := by
      intro t kt
      refine pre109 t ?_
      refine X0.arraylength hx (by rw [e0]; exact Ar110.1) (State.isArrayOf_alike hZ.alike Ar110.2.1) (g := (mkF m 1 #[.val (.ref a1), .val (.ref a2), .unset] [(.ref a1)])) rfl rfl (hb hby d16_1) _ ?_
      rw [len_of Sz110 Ng110]
      show Steps p.tables e below (s₁.setTop (mkF m 2 #[.val (.ref a1), .val (.ref a2), .unset] [(.int 3)])) _
      refine XS.aloadN X0.here hx rfl (hb hby d16_2) rfl rfl ?_
      exact kt
    obtain ⟨cl112, Ar112, -, Sz112, Ng112, -, -⟩ := id v2_
    have pre113 : own_Go p e below S0 (s₁.setTop (mkF m 11 #[.val (.ref a1), .val (.ref a2), .val (.int 0)] [(.ref a1), (.int 0)])) := by
      intro t kt
      refine pre111 t ?_
      refine X0.arraylength hx (by rw [e0]; exact Ar112.1) (State.isArrayOf_alike hZ.alike Ar112.2.1) (g := (mkF m 3 #[.val (.ref a1), .val (.ref a2), .unset] [(.ref a2), (.int 3)])) rfl rfl (hb hby d16_3) _ ?_
      rw [len_of Sz112 Ng112]
      show Steps p.tables e below (s₁.setTop (mkF m 4 #[.val (.ref a1), .val (.ref a2), .unset] [(.int 3), (.int 3)])) _
      refine XS.icmpNo X0.here hx rfl (hb hby d16_4) rfl (teq (by decide : (3 : Int32) = (3 : Int32))).2 ?_
      refine XS.iconst X0.here hx rfl (hb hby d16_7) ?_
      show Steps p.tables e below (s₁.setTop (mkF m 8 #[.val (.ref a1), .val (.ref a2), .unset] [(.int 0)])) _
      refine XS.istoreN X0.here hx rfl (hb hby d16_8) rfl (l' := #[.val (.ref a1), .val (.ref a2), .val (.int 0)]) rfl ?_
      refine XS.iloadN X0.here hx rfl (hb hby d16_9) rfl ?_
      refine XS.aloadN X0.here hx rfl (hb hby d16_10) rfl rfl ?_
      exact kt
    obtain ⟨cl114, Ar114, -, Sz114, Ng114, -, -⟩ := id v1_
    have pre115 : own_Go p e below S0 (s₁.setTop (mkF m 17 #[.val (.ref a1), .val (.ref a2), .val (.int 0)] [(.int 0), (.ref a1)])) := by
      intro t kt
      refine pre113 t ?_
      refine X0.arraylength hx (by rw [e0]; exact Ar114.1) (State.isArrayOf_alike hZ.alike Ar114.2.1) (g := (mkF m 11 #[.val (.ref a1), .val (.ref a2), .val (.int 0)] [(.ref a1), (.int 0)])) rfl rfl (hb hby d16_11) _ ?_
      rw [len_of Sz114 Ng114]
      show Steps p.tables e below (s₁.setTop (mkF m 12 #[.val (.ref a1), .val (.ref a2), .val (.int 0)] [(.int 3), (.int 0)])) _
      refine XS.icmpNo X0.here hx rfl (hb hby d16_12) rfl (tlt (by decide : (0 : Int32) < (3 : Int32))).2.1 ?_
      refine XS.aloadN X0.here hx rfl (hb hby d16_15) rfl rfl ?_
      show Steps p.tables e below (s₁.setTop (mkF m 16 #[.val (.ref a1), .val (.ref a2), .val (.int 0)] [(.ref a1)])) _
      refine XS.iloadN X0.here hx rfl (hb hby d16_16) rfl ?_
      exact kt
    obtain ⟨cl116, Ar116, -, Sz116, -, Hs116, -⟩ := id v1_
    have hin116 : ¬ ((0 : Int32) < 0 ∨ cl116.slots.size ≤ ((0 : Int32)).toNatClampNeg) := inb_of Sz116 ⟨by decide, by decide⟩
    have pre117 : own_Go p e below S0 (s₁.setTop (mkF m 20 #[.val (.ref a1), .val (.ref a2), .val (.int 0)] [(.int 0), (.ref a2), (.int (nar .byte (x0.toInt8.toInt32)))])) := by
      intro t kt
      refine pre115 t ?_
      refine X0.baloadBytes hx (j := (0 : Int32)) (v := (.int (nar .byte (x0.toInt8.toInt32)))) (by rw [e0]; exact Ar116.1) (State.isArrayOf_alike hZ.alike Ar116.2.1) Ar116.2.2 hin116 (Hs116.at hin116 rfl) (g := (mkF m 17 #[.val (.ref a1), .val (.ref a2), .val (.int 0)] [(.int 0), (.ref a1)])) rfl rfl (hb hby d16_17) _ ?_
      refine XS.aloadN X0.here hx rfl (hb hby d16_18) rfl rfl ?_
      refine XS.iloadN X0.here hx rfl (hb hby d16_19) rfl ?_
      exact kt
    obtain ⟨cl118, Ar118, -, Sz118, -, Hs118, -⟩ := id v2_
    have hin118 : ¬ ((0 : Int32) < 0 ∨ cl118.slots.size ≤ ((0 : Int32)).toNatClampNeg) := inb_of Sz118 ⟨by decide, by decide⟩
    have pre120 : own_Go p e below S0 (s₁.setTop (mkF m 21 #[.val (.ref a1), .val (.ref a2), .val (.int 0)] [(.int (nar .byte (y0.toInt8.toInt32))), (.int (nar .byte (x0.toInt8.toInt32)))])) := by
      intro t kt
      refine pre117 t ?_
      refine X0.baloadBytes hx (j := (0 : Int32)) (v := (.int (nar .byte (y0.toInt8.toInt32)))) (by rw [e0]; exact Ar118.1) (State.isArrayOf_alike hZ.alike Ar118.2.1) Ar118.2.2 hin118 (Hs118.at hin118 rfl) (g := (mkF m 20 #[.val (.ref a1), .val (.ref a2), .val (.int 0)] [(.int 0), (.ref a2), (.int (nar .byte (x0.toInt8.toInt32)))])) rfl rfl (hb hby d16_20) _ ?_
      exact kt
    by_cases hc119 : (nar .byte (x0.toInt8.toInt32)) = (nar .byte (y0.toInt8.toInt32))
    · have pre121 : own_Go p e below S0 (s₁.setTop (mkF m 11 #[.val (.ref a1), .val (.ref a2), .val (.int 1)] [(.ref a1), (.int 1)])) := by
        intro t kt
        refine pre120 t ?_
        refine XS.icmpYes X0.here hx rfl (pc0 := 21) (pc' := 26) rfl (hb hby d16_21) rfl (teq hc119).1 (by decide) (by decide) ?_
        refine XS.iinc X0.here hx rfl (hb hby d16_26) rfl (l' := #[.val (.ref a1), .val (.ref a2), .val (.int 1)]) rfl ?_
        refine XS.goto X0.here hx rfl (pc0 := 29) (pc' := 9) rfl (hb hby d16_29) (by decide) (by decide) ?_
        refine XS.iloadN X0.here hx rfl (hb hby d16_9) rfl ?_
        show Steps p.tables e below (s₁.setTop (mkF m 10 #[.val (.ref a1), .val (.ref a2), .val (.int 1)] [(.int 1)])) _
        refine XS.aloadN X0.here hx rfl (hb hby d16_10) rfl rfl ?_
        exact kt
      obtain ⟨cl122, Ar122, -, Sz122, Ng122, -, -⟩ := id v1_
      have pre123 : own_Go p e below S0 (s₁.setTop (mkF m 17 #[.val (.ref a1), .val (.ref a2), .val (.int 1)] [(.int 1), (.ref a1)])) := by
        intro t kt
        refine pre121 t ?_
        refine X0.arraylength hx (by rw [e0]; exact Ar122.1) (State.isArrayOf_alike hZ.alike Ar122.2.1) (g := (mkF m 11 #[.val (.ref a1), .val (.ref a2), .val (.int 1)] [(.ref a1), (.int 1)])) rfl rfl (hb hby d16_11) _ ?_
        rw [len_of Sz122 Ng122]
        show Steps p.tables e below (s₁.setTop (mkF m 12 #[.val (.ref a1), .val (.ref a2), .val (.int 1)] [(.int 3), (.int 1)])) _
        refine XS.icmpNo X0.here hx rfl (hb hby d16_12) rfl (tlt (by decide : (1 : Int32) < (3 : Int32))).2.1 ?_
        refine XS.aloadN X0.here hx rfl (hb hby d16_15) rfl rfl ?_
        show Steps p.tables e below (s₁.setTop (mkF m 16 #[.val (.ref a1), .val (.ref a2), .val (.int 1)] [(.ref a1)])) _
        refine XS.iloadN X0.here hx rfl (hb hby d16_16) rfl ?_
        exact kt
      obtain ⟨cl124, Ar124, -, Sz124, -, Hs124, -⟩ := id v1_
      have hin124 : ¬ ((1 : Int32) < 0 ∨ cl124.slots.size ≤ ((1 : Int32)).toNatClampNeg) := inb_of Sz124 ⟨by decide, by decide⟩
      have pre125 : own_Go p e below S0 (s₁.setTop (mkF m 20 #[.val (.ref a1), .val (.ref a2), .val (.int 1)] [(.int 1), (.ref a2), (.int (nar .byte (x1.toInt8.toInt32)))])) := by
        intro t kt
        refine pre123 t ?_
        refine X0.baloadBytes hx (j := (1 : Int32)) (v := (.int (nar .byte (x1.toInt8.toInt32)))) (by rw [e0]; exact Ar124.1) (State.isArrayOf_alike hZ.alike Ar124.2.1) Ar124.2.2 hin124 (Hs124.at hin124 rfl) (g := (mkF m 17 #[.val (.ref a1), .val (.ref a2), .val (.int 1)] [(.int 1), (.ref a1)])) rfl rfl (hb hby d16_17) _ ?_
        refine XS.aloadN X0.here hx rfl (hb hby d16_18) rfl rfl ?_
        refine XS.iloadN X0.here hx rfl (hb hby d16_19) rfl ?_
        exact kt
      obtain ⟨cl126, Ar126, -, Sz126, -, Hs126, -⟩ := id v2_
      have hin126 : ¬ ((1 : Int32) < 0 ∨ cl126.slots.size ≤ ((1 : Int32)).toNatClampNeg) := inb_of Sz126 ⟨by decide, by decide⟩
      have pre128 : own_Go p e below S0 (s₁.setTop (mkF m 21 #[.val (.ref a1), .val (.ref a2), .val (.int 1)] [(.int (nar .byte (y1.toInt8.toInt32))), (.int (nar .byte (x1.toInt8.toInt32)))])) := by
        intro t kt
        refine pre125 t ?_
        refine X0.baloadBytes hx (j := (1 : Int32)) (v := (.int (nar .byte (y1.toInt8.toInt32)))) (by rw [e0]; exact Ar126.1) (State.isArrayOf_alike hZ.alike Ar126.2.1) Ar126.2.2 hin126 (Hs126.at hin126 rfl) (g := (mkF m 20 #[.val (.ref a1), .val (.ref a2), .val (.int 1)] [(.int 1), (.ref a2), (.int (nar .byte (x1.toInt8.toInt32)))])) rfl rfl (hb hby d16_20) _ ?_
        exact kt
      by_cases hc127 : (nar .byte (x1.toInt8.toInt32)) = (nar .byte (y1.toInt8.toInt32))
      · have pre129 : own_Go p e below S0 (s₁.setTop (mkF m 11 #[.val (.ref a1), .val (.ref a2), .val (.int 2)] [(.ref a1), (.int 2)])) := by
          intro t kt
          refine pre128 t ?_
          refine XS.icmpYes X0.here hx rfl (pc0 := 21) (pc' := 26) rfl (hb hby d16_21) rfl (teq hc127).1 (by decide) (by decide) ?_
          refine XS.iinc X0.here hx rfl (hb hby d16_26) rfl (l' := #[.val (.ref a1), .val (.ref a2), .val (.int 2)]) rfl ?_
          refine XS.goto X0.here hx rfl (pc0 := 29) (pc' := 9) rfl (hb hby d16_29) (by decide) (by decide) ?_
          refine XS.iloadN X0.here hx rfl (hb hby d16_9) rfl ?_
          show Steps p.tables e below (s₁.setTop (mkF m 10 #[.val (.ref a1), .val (.ref a2), .val (.int 2)] [(.int 2)])) _
          refine XS.aloadN X0.here hx rfl (hb hby d16_10) rfl rfl ?_
          exact kt
        obtain ⟨cl130, Ar130, -, Sz130, Ng130, -, -⟩ := id v1_
        have pre131 : own_Go p e below S0 (s₁.setTop (mkF m 17 #[.val (.ref a1), .val (.ref a2), .val (.int 2)] [(.int 2), (.ref a1)])) := by
          intro t kt
          refine pre129 t ?_
          refine X0.arraylength hx (by rw [e0]; exact Ar130.1) (State.isArrayOf_alike hZ.alike Ar130.2.1) (g := (mkF m 11 #[.val (.ref a1), .val (.ref a2), .val (.int 2)] [(.ref a1), (.int 2)])) rfl rfl (hb hby d16_11) _ ?_
          rw [len_of Sz130 Ng130]
          show Steps p.tables e below (s₁.setTop (mkF m 12 #[.val (.ref a1), .val (.ref a2), .val (.int 2)] [(.int 3), (.int 2)])) _
          refine XS.icmpNo X0.here hx rfl (hb hby d16_12) rfl (tlt (by decide : (2 : Int32) < (3 : Int32))).2.1 ?_
          refine XS.aloadN X0.here hx rfl (hb hby d16_15) rfl rfl ?_
          show Steps p.tables e below (s₁.setTop (mkF m 16 #[.val (.ref a1), .val (.ref a2), .val (.int 2)] [(.ref a1)])) _
          refine XS.iloadN X0.here hx rfl (hb hby d16_16) rfl ?_
          exact kt
        obtain ⟨cl132, Ar132, -, Sz132, -, Hs132, -⟩ := id v1_
        have hin132 : ¬ ((2 : Int32) < 0 ∨ cl132.slots.size ≤ ((2 : Int32)).toNatClampNeg) := inb_of Sz132 ⟨by decide, by decide⟩
        have pre133 : own_Go p e below S0 (s₁.setTop (mkF m 20 #[.val (.ref a1), .val (.ref a2), .val (.int 2)] [(.int 2), (.ref a2), (.int (nar .byte (x2.toInt8.toInt32)))])) := by
          intro t kt
          refine pre131 t ?_
          refine X0.baloadBytes hx (j := (2 : Int32)) (v := (.int (nar .byte (x2.toInt8.toInt32)))) (by rw [e0]; exact Ar132.1) (State.isArrayOf_alike hZ.alike Ar132.2.1) Ar132.2.2 hin132 (Hs132.at hin132 rfl) (g := (mkF m 17 #[.val (.ref a1), .val (.ref a2), .val (.int 2)] [(.int 2), (.ref a1)])) rfl rfl (hb hby d16_17) _ ?_
          refine XS.aloadN X0.here hx rfl (hb hby d16_18) rfl rfl ?_
          refine XS.iloadN X0.here hx rfl (hb hby d16_19) rfl ?_
          exact kt
        obtain ⟨cl134, Ar134, -, Sz134, -, Hs134, -⟩ := id v2_
        have hin134 : ¬ ((2 : Int32) < 0 ∨ cl134.slots.size ≤ ((2 : Int32)).toNatClampNeg) := inb_of Sz134 ⟨by decide, by decide⟩
        have pre136 : own_Go p e below S0 (s₁.setTop (mkF m 21 #[.val (.ref a1), .val (.ref a2), .val (.int 2)] [(.int (nar .byte (y2.toInt8.toInt32))), (.int (nar .byte (x2.toInt8.toInt32)))])) := by
          intro t kt
          refine pre133 t ?_
          refine X0.baloadBytes hx (j := (2 : Int32)) (v := (.int (nar .byte (y2.toInt8.toInt32)))) (by rw [e0]; exact Ar134.1) (State.isArrayOf_alike hZ.alike Ar134.2.1) Ar134.2.2 hin134 (Hs134.at hin134 rfl) (g := (mkF m 20 #[.val (.ref a1), .val (.ref a2), .val (.int 2)] [(.int 2), (.ref a2), (.int (nar .byte (x2.toInt8.toInt32)))])) rfl rfl (hb hby d16_20) _ ?_
          exact kt
        by_cases hc135 : (nar .byte (x2.toInt8.toInt32)) = (nar .byte (y2.toInt8.toInt32))
        · have pre137 : own_Go p e below S0 (s₁.setTop (mkF m 11 #[.val (.ref a1), .val (.ref a2), .val (.int 3)] [(.ref a1), (.int 3)])) := by
            intro t kt
            refine pre136 t ?_
            refine XS.icmpYes X0.here hx rfl (pc0 := 21) (pc' := 26) rfl (hb hby d16_21) rfl (teq hc135).1 (by decide) (by decide) ?_
            refine XS.iinc X0.here hx rfl (hb hby d16_26) rfl (l' := #[.val (.ref a1), .val (.ref a2), .val (.int 3)]) rfl ?_
            refine XS.goto X0.here hx rfl (pc0 := 29) (pc' := 9) rfl (hb hby d16_29) (by decide) (by decide) ?_
            refine XS.iloadN X0.here hx rfl (hb hby d16_9) rfl ?_
            show Steps p.tables e below (s₁.setTop (mkF m 10 #[.val (.ref a1), .val (.ref a2), .val (.int 3)] [(.int 3)])) _
            refine XS.aloadN X0.here hx rfl (hb hby d16_10) rfl rfl ?_
            exact kt
          obtain ⟨cl138, Ar138, -, Sz138, Ng138, -, -⟩ := id v1_
          have pre139 : own_Go p e below S0 (s₁.setTop (mkF m 33 #[.val (.ref a1), .val (.ref a2), .val (.int 3)] [(.int 1)])) := by
            intro t kt
            refine pre137 t ?_
            refine X0.arraylength hx (by rw [e0]; exact Ar138.1) (State.isArrayOf_alike hZ.alike Ar138.2.1) (g := (mkF m 11 #[.val (.ref a1), .val (.ref a2), .val (.int 3)] [(.ref a1), (.int 3)])) rfl rfl (hb hby d16_11) _ ?_
            rw [len_of Sz138 Ng138]
            show Steps p.tables e below (s₁.setTop (mkF m 12 #[.val (.ref a1), .val (.ref a2), .val (.int 3)] [(.int 3), (.int 3)])) _
            refine XS.icmpYes X0.here hx rfl (pc0 := 12) (pc' := 32) rfl (hb hby d16_12) rfl (flt (by decide : ¬ ((3 : Int32) < (3 : Int32)))).2.1 (by decide) (by decide) ?_
            refine XS.iconst X0.here hx rfl (hb hby d16_32) ?_
            show Steps p.tables e below (s₁.setTop (mkF m 33 #[.val (.ref a1), .val (.ref a2), .val (.int 3)] [(.int 1)])) _
            exact kt
          obtain ⟨fs, hr, hrun, hended, hW, hsame⟩ := X0.leave (v := some (.int 1)) (fun h => by rw [Bd.returns] at h; cases h)
          refine ⟨_, _, fin _ (pre139 _ ?_), hrun, hended, _, _, rfl, ?_, ⟨_, rfl⟩, hW, hsame.mono (by decide) (by decide)⟩
          · exact retN X0 hx (t := .boolean) Bd.returns (by simp) (hb hby d16_33) hr
          · show Qleq Z _ _ _ _ _ _ h0 n0 _ s₁.heap _
            rw [e0]
            exact ⟨(by show some (Value.int _) = some (Value.int (if own_nb x0 = own_nb y0 then (if own_nb x1 = own_nb y1 then (if own_nb x2 = own_nb y2 then 1 else 0) else 0) else 0)); rw [if_pos (show own_nb x0 = own_nb y0 from hc119), if_pos (show own_nb x1 = own_nb y1 from hc127), if_pos (show own_nb x2 = own_nb y2 from hc135)]), N0, rfl⟩
        · have pre140 : own_Go p e below S0 (s₁.setTop (mkF m 25 #[.val (.ref a1), .val (.ref a2), .val (.int 2)] [(.int 0)])) := by
            intro t kt
            refine pre136 t ?_
            refine XS.icmpNo X0.here hx rfl (hb hby d16_21) rfl (feq hc135).1 ?_
            refine XS.iconst X0.here hx rfl (hb hby d16_24) ?_
            exact kt
          obtain ⟨fs, hr, hrun, hended, hW, hsame⟩ := X0.leave (v := some (.int 0)) (fun h => by rw [Bd.returns] at h; cases h)
          refine ⟨_, _, fin _ (pre140 _ ?_), hrun, hended, _, _, rfl, ?_, ⟨_, rfl⟩, hW, hsame.mono (by decide) (by decide)⟩
          · exact retN X0 hx (t := .boolean) Bd.returns (by simp) (hb hby d16_25) hr
          · show Qleq Z _ _ _ _ _ _ h0 n0 _ s₁.heap _
            rw [e0]
            exact ⟨(by show some (Value.int _) = some (Value.int (if own_nb x0 = own_nb y0 then (if own_nb x1 = own_nb y1 then (if own_nb x2 = own_nb y2 then 1 else 0) else 0) else 0)); rw [if_pos (show own_nb x0 = own_nb y0 from hc119), if_pos (show own_nb x1 = own_nb y1 from hc127), if_neg (show ¬ own_nb x2 = own_nb y2 from hc135)]), N0, rfl⟩
      · have pre141 : own_Go p e below S0 (s₁.setTop (mkF m 25 #[.val (.ref a1), .val (.ref a2), .val (.int 1)] [(.int 0)])) := by
          intro t kt
          refine pre128 t ?_
          refine XS.icmpNo X0.here hx rfl (hb hby d16_21) rfl (feq hc127).1 ?_
          refine XS.iconst X0.here hx rfl (hb hby d16_24) ?_
          exact kt
        obtain ⟨fs, hr, hrun, hended, hW, hsame⟩ := X0.leave (v := some (.int 0)) (fun h => by rw [Bd.returns] at h; cases h)
        refine ⟨_, _, fin _ (pre141 _ ?_), hrun, hended, _, _, rfl, ?_, ⟨_, rfl⟩, hW, hsame.mono (by decide) (by decide)⟩
        · exact retN X0 hx (t := .boolean) Bd.returns (by simp) (hb hby d16_25) hr
        · show Qleq Z _ _ _ _ _ _ h0 n0 _ s₁.heap _
          rw [e0]
          exact ⟨(by show some (Value.int _) = some (Value.int (if own_nb x0 = own_nb y0 then (if own_nb x1 = own_nb y1 then (if own_nb x2 = own_nb y2 then 1 else 0) else 0) else 0)); rw [if_pos (show own_nb x0 = own_nb y0 from hc119), if_neg (show ¬ own_nb x1 = own_nb y1 from hc127)]), N0, rfl⟩
    · have pre142 : own_Go p e below S0 (s₁.setTop (mkF m 25 #[.val (.ref a1), .val (.ref a2), .val (.int 0)] [(.int 0)])) := by
        intro t kt
        refine pre120 t ?_
        refine XS.icmpNo X0.here hx rfl (hb hby d16_21) rfl (feq hc119).1 ?_
        refine XS.iconst X0.here hx rfl (hb hby d16_24) ?_
        exact kt
      obtain ⟨fs, hr, hrun, hended, hW, hsame⟩ := X0.leave (v := some (.int 0)) (fun h => by rw [Bd.returns] at h; cases h)
      refine ⟨_, _, fin _ (pre142 _ ?_), hrun, hended, _, _, rfl, ?_, ⟨_, rfl⟩, hW, hsame.mono (by decide) (by decide)⟩
      · exact retN X0 hx (t := .boolean) Bd.returns (by simp) (hb hby d16_25) hr
      · show Qleq Z _ _ _ _ _ _ h0 n0 _ s₁.heap _
        rw [e0]
        exact ⟨(by show some (Value.int _) = some (Value.int (if own_nb x0 = own_nb y0 then (if own_nb x1 = own_nb y1 then (if own_nb x2 = own_nb y2 then 1 else 0) else 0) else 0)); rw [if_neg (show ¬ own_nb x0 = own_nb y0 from hc119)]), N0, rfl⟩

theorem d14_0 : decode jdk_42_method_66_code 0 = .ok (.aload_n 0, 1) := by decide +kernel
theorem d14_1 : decode jdk_42_method_66_code 1 = .ok (.aload_n 1, 1) := by decide +kernel
theorem d14_2 : decode jdk_42_method_66_code 2 = .ok (.if_acmp .ne 5, 3) := by decide +kernel
theorem d14_7 : decode jdk_42_method_66_code 7 = .ok (.aload_n 1, 1) := by decide +kernel
theorem d14_8 : decode jdk_42_method_66_code 8 = .ok (.instanceof 10, 3) := by decide +kernel
theorem d14_11 : decode jdk_42_method_66_code 11 = .ok (.ifCond .eq 43, 3) := by decide +kernel
theorem d14_14 : decode jdk_42_method_66_code 14 = .ok (.aload_n 1, 1) := by decide +kernel
theorem d14_15 : decode jdk_42_method_66_code 15 = .ok (.checkcast 10, 3) := by decide +kernel
theorem d14_18 : decode jdk_42_method_66_code 18 = .ok (.astore_n 2, 1) := by decide +kernel
theorem d14_19 : decode jdk_42_method_66_code 19 = .ok (.getstatic 38, 3) := by decide +kernel
theorem d14_22 : decode jdk_42_method_66_code 22 = .ok (.ifCond .eq 14, 3) := by decide +kernel
theorem d14_25 : decode jdk_42_method_66_code 25 = .ok (.aload_n 0, 1) := by decide +kernel
theorem d14_26 : decode jdk_42_method_66_code 26 = .ok (.getfield 15, 3) := by decide +kernel
theorem d14_29 : decode jdk_42_method_66_code 29 = .ok (.aload_n 2, 1) := by decide +kernel
theorem d14_30 : decode jdk_42_method_66_code 30 = .ok (.getfield 15, 3) := by decide +kernel
theorem d14_33 : decode jdk_42_method_66_code 33 = .ok (.if_icmp .ne 21, 3) := by decide +kernel
theorem d14_36 : decode jdk_42_method_66_code 36 = .ok (.aload_n 0, 1) := by decide +kernel
theorem d14_37 : decode jdk_42_method_66_code 37 = .ok (.getfield 9, 3) := by decide +kernel
theorem d14_40 : decode jdk_42_method_66_code 40 = .ok (.aload_n 2, 1) := by decide +kernel
theorem d14_41 : decode jdk_42_method_66_code 41 = .ok (.getfield 9, 3) := by decide +kernel
theorem d14_44 : decode jdk_42_method_66_code 44 = .ok (.invokestatic 541, 3) := by decide +kernel
theorem d14_47 : decode jdk_42_method_66_code 47 = .ok (.ifCond .eq 7, 3) := by decide +kernel
theorem d14_50 : decode jdk_42_method_66_code 50 = .ok (.iconst 1, 1) := by decide +kernel
theorem d14_51 : decode jdk_42_method_66_code 51 = .ok (.goto 4, 3) := by decide +kernel
theorem d14_54 : decode jdk_42_method_66_code 54 = .ok (.iconst 0, 1) := by decide +kernel
theorem d14_55 : decode jdk_42_method_66_code 55 = .ok (.ireturn, 1) := by decide +kernel
theorem pn_14 : plainName "java/lang/String" = true := by first | (simp [plainName, overriddenIn]; done) | decide +kernel
theorem pd_6 : parseMethodDescriptor "([B[B)Z" = some ⟨[(.array .byte), (.array .byte)], some .boolean⟩ := by decide +kernel
theorem ef_seq (m : MethodId) (x0 : Addr) (x1 : Addr) : entryFrame m #[(.ref x0), (.ref x1)] 3 = mkF m 0 #[.val (.ref x0), .val (.ref x1), .unset] [] := by first | (simp [entryFrame, mkF, argsToLocals, Value.category]; done) | rfl
def own_seq (cs1 : List Int32) (cs2 : List Int32) : Int32 := (if (own_beq cs1 cs2) = (0 : Int32) then (0 : Int32) else (1 : Int32))
def Qseq (Z : State) (a1 : Addr) (a2 : Addr) (wC : Int32) (vb1 : Addr) (kb1 : ClassId) (cs1 : List Int32) (vb2 : Addr) (kb2 : ClassId) (cs2 : List Int32) (h0 : Heap) (n0 : Nat) (v : Option Value) (h : Heap) (L : List Loc) : Prop := v = (some (.int (own_seq cs1 cs2))) ∧ Fr n0 L ∧ h = h0
set_option maxRecDepth 65536 in
set_option maxHeartbeats 40000000 in
theorem rmseq (l : Launch) (Z : State) (a0 : Array Value) (hw : ∀ d ∈ tables_1, d.before a0 Z = true) (ws : List Jvm.Cond) (a1 : Addr) (a2 : Addr) (wC : Int32) (vb1 : Addr) (kb1 : ClassId) (cs1 : List Int32) (vb2 : Addr) (kb2 : ClassId) (cs2 : List Int32) (h0 : Heap) (n0 : Nat) (Z0 : n0 ≤ h0.size) (O0 : Old Z n0 h0) (qC : (own_SC Z wC)) (hS1 : own_StrL Z h0 a1 vb1 kb1 cs1) (hS2 : own_StrL Z h0 a2 vb2 kb2 cs2) (n12 : a1 ≠ a2) (s1 : (own_S3 cs1)) (s2 : (own_S3 cs2)) :
    MetFree l own_m9 (head1 (Jvm.Cond.code own_m9 jdk_42_method_66_code 3 (some .boolean) :: ws) (own_r 1 0 0 14)) (fun a U => a = #[(.ref a1), (.ref a2)] ∧ Z.Warmed39 U.vm ∧ U.heap = h0) (fun _ _ _ _ _ => True) (fun _ U o U' => ∃ v L, o = .returned v ∧ Qseq Z a1 a2 wC vb1 kb1 cs1 vb2 kb2 cs2 h0 n0 v U'.heap L ∧ FrameEnd U o U' L (own_r 1 0 0 14).cells (own_r 1 0 0 14).slots) := by
  refine MetFree.of_bodySF (plainFor_of_name pn_14) hisR ?_
  intro p e s m args below meth c s₁ Bd hml0 hP hK
  obtain ⟨rfl, hZ, hh⟩ := hP
  have hx := Bd.exec
  have hby := Bd.bytes
  have hml : c.maxLocals = 3 := hml0
  have hown0 := findClass_of_methodNamed Bd.named
  have hown : s.vm.findClass "java/lang/String" = some m.cls := hown0
  have hnm := (name_of_methodNamed Bd.named Bd.method).1
  have X0 : Stand p l e (own_r 1 0 0 14) s m #[(.ref a1), (.ref a2)] below meth c s₁ [] 0 0 := Stand.of_body Bd
  have e0 : s₁.heap = h0 := by rw [← hh, Bd.state]; rfl
  have N0 := Fr.nil n0
  obtain ⟨S0, hS0⟩ : ∃ z, z = s₁.setTop (entryFrame m #[(.ref a1), (.ref a2)] 3) := ⟨_, rfl⟩
  have pre0 : own_Go p e below S0 (s₁.setTop (mkF m 0 #[.val (.ref a1), .val (.ref a2), .unset] [])) := fun t k => by rw [hS0]; exact castTop (ef_seq m a1 a2) k
  have fin : ∀ t, Steps p.tables e below S0 t → Steps p.tables e below (s₁.setTop (entryFrame m #[(.ref a1), (.ref a2)] 3)) t := fun t k => by rw [hS0] at k; exact k
  obtain ⟨oE1, oV1, oC1, oB1⟩ := hS1
  obtain ⟨oE2, oV2, oC2, oB2⟩ := hS2
  have pre1 : own_Go p e below S0 (s₁.setTop (mkF m 8 #[.val (.ref a1), .val (.ref a2), .unset] [(.ref a2)])) := by
    intro t kt
    refine pre0 t ?_
    refine XS.aloadN X0.here hx rfl (hb hby d14_0) rfl rfl ?_
    refine XS.aloadN X0.here hx rfl (hb hby d14_1) rfl rfl ?_
    refine Jvm.RoadKit.acmp (g := (mkF m 2 #[.val (.ref a1), .val (.ref a2), .unset] [(.ref a2), (.ref a1)])) X0 hx rfl rfl rfl (pc0 := 2) (pc' := 7) (same := false) rfl (hb hby d14_2) rfl (decide_eq_false fun q => n12 (Value.ref.inj q)) (by decide) (by decide) ?_
    refine XS.aloadN X0.here hx rfl (hb hby d14_7) rfl rfl ?_
    show Steps p.tables e below (s₁.setTop (mkF m 8 #[.val (.ref a1), .val (.ref a2), .unset] [(.ref a2)])) _
    exact kt
  obtain ⟨T2, X2, e2, st2⟩ := instY X0 hx hZ hown (hw _ (own_w 92 rfl)) e0 (Ins.self oE2) (g := (mkF m 8 #[.val (.ref a1), .val (.ref a2), .unset] [(.ref a2)])) rfl rfl (hb hby d14_8)
  have pre3 : own_Go p e below S0 (T2.setTop (mkF m 15 #[.val (.ref a1), .val (.ref a2), .unset] [(.ref a2)])) := by
    intro t kt
    refine pre1 t ?_
    refine st2 _ ?_
    refine XS.ifNo X2.here hx rfl (hb hby d14_11) rfl ((if0 _ _).trans (feq (by decide : ¬ ((1 : Int32) = (0 : Int32)))).1) ?_
    refine XS.aloadN X2.here hx rfl (hb hby d14_14) rfl rfl ?_
    exact kt
  obtain ⟨T4, X4, e4, st4⟩ := castY X2 hx hZ hown (hw _ (own_w 92 rfl)) e2 (Ins.self oE2) (g := (mkF m 15 #[.val (.ref a1), .val (.ref a2), .unset] [(.ref a2)])) rfl rfl (hb hby d14_15)
  have pre5 : own_Go p e below S0 (T4.setTop (mkF m 19 #[.val (.ref a1), .val (.ref a2), .val (.ref a2)] [])) := by
    intro t kt
    refine pre3 t ?_
    refine st4 _ ?_
    refine XS.astoreN X4.here hx rfl (hb hby d14_18) rfl rfl (l' := #[.val (.ref a1), .val (.ref a2), .val (.ref a2)]) rfl ?_
    exact kt
  obtain ⟨T6, X6, e6, st6⟩ := getS2 X4 hx hZ hown (host := "") (Or.inl (hw _ (own_w 72 rfl))) Via.refl e4 (qC.1.ext O0.2) (g := (mkF m 19 #[.val (.ref a1), .val (.ref a2), .val (.ref a2)] [])) rfl (hb hby d14_19)
  have pre7 : own_Go p e below S0 (T6.setTop (mkF m 26 #[.val (.ref a1), .val (.ref a2), .val (.ref a2)] [(.ref a1)])) := by
    intro t kt
    refine pre5 t ?_
    refine st6 _ ?_
    refine XS.ifNo X6.here hx rfl (hb hby d14_22) rfl ((if0 _ _).trans (feq qC.2).1) ?_
    refine XS.aloadN X6.here hx rfl (hb hby d14_25) rfl rfl ?_
    exact kt
  obtain ⟨T8, X8, e8, st8⟩ := getF X6 hx hZ hown (host := "") (Or.inl (hw _ (own_w 25 rfl))) Via.refl e6 oC1 (g := (mkF m 26 #[.val (.ref a1), .val (.ref a2), .val (.ref a2)] [(.ref a1)])) rfl rfl (hb hby d14_26)
  have pre9 : own_Go p e below S0 (T8.setTop (mkF m 30 #[.val (.ref a1), .val (.ref a2), .val (.ref a2)] [(.ref a2), (.int 0)])) := by
    intro t kt
    refine pre7 t ?_
    refine st8 _ ?_
    refine XS.aloadN X8.here hx rfl (hb hby d14_29) rfl rfl ?_
    exact kt
  obtain ⟨T10, X10, e10, st10⟩ := getF X8 hx hZ hown (host := "") (Or.inl (hw _ (own_w 25 rfl))) Via.refl e8 oC2 (g := (mkF m 30 #[.val (.ref a1), .val (.ref a2), .val (.ref a2)] [(.ref a2), (.int 0)])) rfl rfl (hb hby d14_30)
  have pre11 : own_Go p e below S0 (T10.setTop (mkF m 37 #[.val (.ref a1), .val (.ref a2), .val (.ref a2)] [(.ref a1)])) := by
    intro t kt
    refine pre9 t ?_
    refine st10 _ ?_
    refine XS.icmpNo X10.here hx rfl (hb hby d14_33) rfl (teq (by decide : (0 : Int32) = (0 : Int32))).2 ?_
    refine XS.aloadN X10.here hx rfl (hb hby d14_36) rfl rfl ?_
    exact kt
  obtain ⟨T12, X12, e12, st12⟩ := getF X10 hx hZ hown (host := "") (Or.inl (hw _ (own_w 24 rfl))) Via.refl e10 oV1 (g := (mkF m 37 #[.val (.ref a1), .val (.ref a2), .val (.ref a2)] [(.ref a1)])) rfl rfl (hb hby d14_37)
  have pre13 : own_Go p e below S0 (T12.setTop (mkF m 41 #[.val (.ref a1), .val (.ref a2), .val (.ref a2)] [(.ref a2), (.ref vb1)])) := by
    intro t kt
    refine pre11 t ?_
    refine st12 _ ?_
    refine XS.aloadN X12.here hx rfl (hb hby d14_40) rfl rfl ?_
    exact kt
  obtain ⟨T14, X14, e14, st14⟩ := getF X12 hx hZ hown (host := "") (Or.inl (hw _ (own_w 24 rfl))) Via.refl e12 oV2 (g := (mkF m 41 #[.val (.ref a1), .val (.ref a2), .val (.ref a2)] [(.ref a2), (.ref vb1)])) rfl rfl (hb hby d14_41)
  have pre15 : own_Go p e below S0 (T14.setTop (mkF m 44 #[.val (.ref a1), .val (.ref a2), .val (.ref a2)] [(.ref vb2), (.ref vb1)])) := by
    intro t kt
    refine pre13 t ?_
    refine st14 _ ?_
    exact kt
  obtain ⟨_, _, ⟨T16, L16, k16, n16⟩, -, X16, ⟨Lc16, hQ16, l16, y16, z16⟩, st16⟩ := Jvm.LawKit.callS X14 hx (y := own_m10) hown (mvT hZ (hw _ (own_w 93 rfl))) (mvT hZ (hw _ (own_w 94 rfl))) (mvT hZ (hw _ (own_w 95 rfl))) (mvT hZ (hw _ (own_w 96 rfl))) (by decide) (backOf (W := 0) (rmleq l Z a0 hw [] vb1 vb2 kb1 kb2 cs1 cs2 h0 n0 Z0 oB1 oB2 s1 s2) hZ (hw _ (own_w 96 rfl)) (hw _ (own_w 95 rfl)) (by decide) (by decide)) (g := (mkF m 44 #[.val (.ref a1), .val (.ref a2), .val (.ref a2)] [(.ref vb2), (.ref vb1)])) rfl (by rw [hml]; rfl) (argsL := [(.ref vb1), (.ref vb2)]) (rest := []) (lenOf pd_6 rfl) rfl (by show 2 * 0 + _ ≤ _; exact Nat.le_of_eq rfl) (hb hby d14_44) (fun _ _ => ⟨rfl, e14, (by decide : 0 + 0 ≤ _), (by decide : 0 + 0 ≤ _)⟩)
  dsimp only [Pt.U, Pt.locs, Pt.cells, Pt.slots] at X16 l16 y16 z16 st16 hQ16
  subst l16 y16 z16
  obtain ⟨rfl, Nq16, eq16⟩ := hQ16
  have N16 := Fr.app N0 Nq16
  have pre18 : own_Go p e below S0 (T16.setTop (mkF m 47 #[.val (.ref a1), .val (.ref a2), .val (.ref a2)] [(.int (own_beq cs1 cs2))])) := by
    intro t kt
    refine pre15 t ?_
    refine st16 _ ?_
    show Steps p.tables e below (T16.setTop (mkF m 47 #[.val (.ref a1), .val (.ref a2), .val (.ref a2)] [(.int (own_beq cs1 cs2))])) _
    exact kt
  by_cases hc17 : (own_beq cs1 cs2) = (0 : Int32)
  · have pre19 : own_Go p e below S0 (T16.setTop (mkF m 55 #[.val (.ref a1), .val (.ref a2), .val (.ref a2)] [(.int 0)])) := by
      intro t kt
      refine pre18 t ?_
      refine XS.ifYes X16.here hx rfl (pc0 := 47) (pc' := 54) rfl (hb hby d14_47) rfl ((if0 _ _).trans (teq hc17).1) (by decide) (by decide) ?_
      refine XS.iconst X16.here hx rfl (hb hby d14_54) ?_
      exact kt
    obtain ⟨fs, hr, hrun, hended, hW, hsame⟩ := X16.leave (v := some (.int 0)) (fun h => by rw [Bd.returns] at h; cases h)
    refine ⟨_, _, fin _ (pre19 _ ?_), hrun, hended, _, _, rfl, ?_, ⟨_, rfl⟩, hW, hsame.mono (by decide) (by decide)⟩
    · exact retN X16 hx (t := .boolean) Bd.returns (by simp) (hb hby d14_55) hr
    · show Qseq Z a1 a2 wC vb1 kb1 cs1 vb2 kb2 cs2 h0 n0 _ T16.heap _
      rw [eq16]
      exact ⟨(by show some _ = some _; rw [own_seq, if_pos hc17]), N16, rfl⟩
  · have pre20 : own_Go p e below S0 (T16.setTop (mkF m 55 #[.val (.ref a1), .val (.ref a2), .val (.ref a2)] [(.int 1)])) := by
      intro t kt
      refine pre18 t ?_
      refine XS.ifNo X16.here hx rfl (hb hby d14_47) rfl ((if0 _ _).trans (feq hc17).1) ?_
      refine XS.iconst X16.here hx rfl (hb hby d14_50) ?_
      refine XS.goto X16.here hx rfl (pc0 := 51) (pc' := 55) rfl (hb hby d14_51) (by decide) (by decide) ?_
      exact kt
    obtain ⟨fs, hr, hrun, hended, hW, hsame⟩ := X16.leave (v := some (.int 1)) (fun h => by rw [Bd.returns] at h; cases h)
    refine ⟨_, _, fin _ (pre20 _ ?_), hrun, hended, _, _, rfl, ?_, ⟨_, rfl⟩, hW, hsame.mono (by decide) (by decide)⟩
    · exact retN X16 hx (t := .boolean) Bd.returns (by simp) (hb hby d14_55) hr
    · show Qseq Z a1 a2 wC vb1 kb1 cs1 vb2 kb2 cs2 h0 n0 _ T16.heap _
      rw [eq16]
      exact ⟨(by show some _ = some _; rw [own_seq, if_neg hc17]), N16, rfl⟩

theorem d14_5 : decode jdk_42_method_66_code 5 = .ok (.iconst 1, 1) := by decide +kernel
theorem d14_6 : decode jdk_42_method_66_code 6 = .ok (.ireturn, 1) := by decide +kernel
theorem ef_ses (m : MethodId) (x0 : Addr) (x1 : Addr) : entryFrame m #[(.ref x0), (.ref x1)] 3 = mkF m 0 #[.val (.ref x0), .val (.ref x1), .unset] [] := by first | (simp [entryFrame, mkF, argsToLocals, Value.category]; done) | rfl
def Qses (Z : State) (a1 : Addr) (h0 : Heap) (n0 : Nat) (v : Option Value) (h : Heap) (L : List Loc) : Prop := v = (some (.int 1)) ∧ Fr n0 L ∧ h = h0
set_option maxRecDepth 65536 in
set_option maxHeartbeats 40000000 in
theorem rmses (l : Launch) (Z : State) (a0 : Array Value) (hw : ∀ d ∈ tables_1, d.before a0 Z = true) (ws : List Jvm.Cond) (a1 : Addr) (h0 : Heap) (n0 : Nat) (Z0 : n0 ≤ h0.size) :
    MetFree l own_m9 (head1 (Jvm.Cond.code own_m9 jdk_42_method_66_code 3 (some .boolean) :: ws) (own_r 0 0 0 0)) (fun a U => a = #[(.ref a1), (.ref a1)] ∧ Z.Warmed39 U.vm ∧ U.heap = h0) (fun _ _ _ _ _ => True) (fun _ U o U' => ∃ v L, o = .returned v ∧ Qses Z a1 h0 n0 v U'.heap L ∧ FrameEnd U o U' L (own_r 0 0 0 0).cells (own_r 0 0 0 0).slots) := by
  refine MetFree.of_bodySF (plainFor_of_name pn_14) hisR ?_
  intro p e s m args below meth c s₁ Bd hml0 hP hK
  obtain ⟨rfl, hZ, hh⟩ := hP
  have hx := Bd.exec
  have hby := Bd.bytes
  have hml : c.maxLocals = 3 := hml0
  have hown0 := findClass_of_methodNamed Bd.named
  have hown : s.vm.findClass "java/lang/String" = some m.cls := hown0
  have hnm := (name_of_methodNamed Bd.named Bd.method).1
  have X0 : Stand p l e (own_r 0 0 0 0) s m #[(.ref a1), (.ref a1)] below meth c s₁ [] 0 0 := Stand.of_body Bd
  have e0 : s₁.heap = h0 := by rw [← hh, Bd.state]; rfl
  have N0 := Fr.nil n0
  obtain ⟨S0, hS0⟩ : ∃ z, z = s₁.setTop (entryFrame m #[(.ref a1), (.ref a1)] 3) := ⟨_, rfl⟩
  have pre0 : own_Go p e below S0 (s₁.setTop (mkF m 0 #[.val (.ref a1), .val (.ref a1), .unset] [])) := fun t k => by rw [hS0]; exact castTop (ef_ses m a1 a1) k
  have fin : ∀ t, Steps p.tables e below S0 t → Steps p.tables e below (s₁.setTop (entryFrame m #[(.ref a1), (.ref a1)] 3)) t := fun t k => by rw [hS0] at k; exact k
  have pre1 : own_Go p e below S0 (s₁.setTop (mkF m 6 #[.val (.ref a1), .val (.ref a1), .unset] [(.int 1)])) := by
    intro t kt
    refine pre0 t ?_
    refine XS.aloadN X0.here hx rfl (hb hby d14_0) rfl rfl ?_
    refine XS.aloadN X0.here hx rfl (hb hby d14_1) rfl rfl ?_
    refine Jvm.RoadKit.acmp (g := (mkF m 2 #[.val (.ref a1), .val (.ref a1), .unset] [(.ref a1), (.ref a1)])) X0 hx rfl rfl rfl (pc0 := 2) (pc' := 5) (same := true) rfl (hb hby d14_2) rfl (decide_eq_true rfl) (by decide) (by decide) ?_
    refine XS.iconst X0.here hx rfl (hb hby d14_5) ?_
    show Steps p.tables e below (s₁.setTop (mkF m 6 #[.val (.ref a1), .val (.ref a1), .unset] [(.int 1)])) _
    exact kt
  obtain ⟨fs, hr, hrun, hended, hW, hsame⟩ := X0.leave (v := some (.int 1)) (fun h => by rw [Bd.returns] at h; cases h)
  refine ⟨_, _, fin _ (pre1 _ ?_), hrun, hended, _, _, rfl, ?_, ⟨_, rfl⟩, hW, hsame.mono (by decide) (by decide)⟩
  · exact retN X0 hx (t := .boolean) Bd.returns (by simp) (hb hby d14_6) hr
  · show Qses Z a1 h0 n0 _ s₁.heap _
    rw [e0]
    exact ⟨rfl, N0, rfl⟩

theorem d6_0 : decode jdk_31_method_11_code 0 = .ok (.aload_n 0, 1) := by decide +kernel
theorem d6_1 : decode jdk_31_method_11_code 1 = .ok (.ifnonnull 12, 3) := by decide +kernel
theorem d6_13 : decode jdk_31_method_11_code 13 = .ok (.aload_n 0, 1) := by decide +kernel
theorem d6_14 : decode jdk_31_method_11_code 14 = .ok (.areturn, 1) := by decide +kernel
theorem pn_6 : plainName "java/util/Objects" = true := by first | (simp [plainName, overriddenIn]; done) | decide +kernel
theorem ef_6 (m : MethodId) (x0 : Addr) (x1 : Addr) : entryFrame m #[(.ref x0), (.ref x1)] 2 = mkF m 0 #[.val (.ref x0), .val (.ref x1)] [] := by first | (simp [entryFrame, mkF, argsToLocals, Value.category]; done) | rfl
def Q6 (Z : State) (a1 : Addr) (a2 : Addr) (h0 : Heap) (n0 : Nat) (v : Option Value) (h : Heap) (L : List Loc) : Prop := v = (some (.ref a1)) ∧ Fr n0 L ∧ h = h0
set_option maxRecDepth 65536 in
set_option maxHeartbeats 40000000 in
theorem rm6 (l : Launch) (Z : State) (a0 : Array Value) (hw : ∀ d ∈ tables_1, d.before a0 Z = true) (ws : List Jvm.Cond) (a1 : Addr) (a2 : Addr) (h0 : Heap) (n0 : Nat) (Z0 : n0 ≤ h0.size) :
    MetFree l own_m14 (head1 (Jvm.Cond.code own_m14 jdk_31_method_11_code 2 (some (.object "java/lang/Object")) :: ws) (own_r 0 0 0 0)) (fun a U => a = #[(.ref a1), (.ref a2)] ∧ Z.Warmed39 U.vm ∧ U.heap = h0) (fun _ _ _ _ _ => True) (fun _ U o U' => ∃ v L, o = .returned v ∧ Q6 Z a1 a2 h0 n0 v U'.heap L ∧ FrameEnd U o U' L (own_r 0 0 0 0).cells (own_r 0 0 0 0).slots) := by
  refine MetFree.of_bodySF (plainFor_of_name pn_6) hisR ?_
  intro p e s m args below meth c s₁ Bd hml0 hP hK
  obtain ⟨rfl, hZ, hh⟩ := hP
  have hx := Bd.exec
  have hby := Bd.bytes
  have hml : c.maxLocals = 2 := hml0
  have hown0 := findClass_of_methodNamed Bd.named
  have hown : s.vm.findClass "java/util/Objects" = some m.cls := hown0
  have hnm := (name_of_methodNamed Bd.named Bd.method).1
  have X0 : Stand p l e (own_r 0 0 0 0) s m #[(.ref a1), (.ref a2)] below meth c s₁ [] 0 0 := Stand.of_body Bd
  have e0 : s₁.heap = h0 := by rw [← hh, Bd.state]; rfl
  have N0 := Fr.nil n0
  obtain ⟨S0, hS0⟩ : ∃ z, z = s₁.setTop (entryFrame m #[(.ref a1), (.ref a2)] 2) := ⟨_, rfl⟩
  have pre0 : own_Go p e below S0 (s₁.setTop (mkF m 0 #[.val (.ref a1), .val (.ref a2)] [])) := fun t k => by rw [hS0]; exact castTop (ef_6 m a1 a2) k
  have fin : ∀ t, Steps p.tables e below S0 t → Steps p.tables e below (s₁.setTop (entryFrame m #[(.ref a1), (.ref a2)] 2)) t := fun t k => by rw [hS0] at k; exact k
  have pre1 : own_Go p e below S0 (s₁.setTop (mkF m 14 #[.val (.ref a1), .val (.ref a2)] [(.ref a1)])) := by
    intro t kt
    refine pre0 t ?_
    refine XS.aloadN X0.here hx rfl (hb hby d6_0) rfl rfl ?_
    refine XS.ifnonnullYes X0.here hx rfl (pc0 := 1) (pc' := 13) rfl (hb hby d6_1) rfl (by decide) (by decide) ?_
    refine XS.aloadN X0.here hx rfl (hb hby d6_13) rfl rfl ?_
    exact kt
  obtain ⟨fs, hr, hrun, hended, hW, hsame⟩ := X0.leave (v := some (.ref a1)) (fun h => by rw [Bd.returns] at h; cases h)
  refine ⟨_, _, fin _ (pre1 _ ?_), hrun, hended, _, _, rfl, ?_, ⟨_, rfl⟩, hW, hsame.mono (by decide) (by decide)⟩
  · jvm_step X0.here [X0.here.top, hx, (hb hby d6_14), X0.method', Bd.returns, Value.isRef, FieldType.isReference]
    first | (intro acts; rw [hr _ acts rfl rfl rfl]) | rw [hr _ _ rfl rfl rfl]
    exact Steps.refl _
  · show Q6 Z a1 a2 h0 n0 _ s₁.heap _
    rw [e0]
    exact ⟨rfl, N0, rfl⟩

theorem d5_0 : decode prog_68_method_1_code 0 = .ok (.aload_n 0, 1) := by decide +kernel
theorem d5_1 : decode prog_68_method_1_code 1 = .ok (.invokespecial 1, 3) := by decide +kernel
theorem d5_4 : decode prog_68_method_1_code 4 = .ok (.aload_n 0, 1) := by decide +kernel
theorem d5_5 : decode prog_68_method_1_code 5 = .ok (.aload_n 1, 1) := by decide +kernel
theorem d5_6 : decode prog_68_method_1_code 6 = .ok (.ldc 7, 2) := by decide +kernel
theorem d5_8 : decode prog_68_method_1_code 8 = .ok (.invokestatic 9, 3) := by decide +kernel
theorem d5_11 : decode prog_68_method_1_code 11 = .ok (.checkcast 15, 3) := by decide +kernel
theorem d5_14 : decode prog_68_method_1_code 14 = .ok (.putfield 17, 3) := by decide +kernel
theorem d5_17 : decode prog_68_method_1_code 17 = .ok (.aload_n 0, 1) := by decide +kernel
theorem d5_18 : decode prog_68_method_1_code 18 = .ok (.iload_n 2, 1) := by decide +kernel
theorem d5_19 : decode prog_68_method_1_code 19 = .ok (.putfield 22, 3) := by decide +kernel
theorem d5_22 : decode prog_68_method_1_code 22 = .ok (.return_, 1) := by decide +kernel
theorem pn_5 : plainName "com/example/horne/horne/term/Indicator" = true := by first | (simp [plainName, overriddenIn]; done) | decide +kernel
theorem pd_7 : parseMethodDescriptor "(Ljava/lang/Object;Ljava/lang/String;)Ljava/lang/Object;" = some ⟨[(.object "java/lang/Object"), (.object "java/lang/String")], some (.object "java/lang/Object")⟩ := by decide +kernel
theorem ef_5 (m : MethodId) (x0 : Addr) (x1 : Addr) (x2 : Int32) : entryFrame m #[(.ref x0), (.ref x1), (.int x2)] 3 = mkF m 0 #[.val (.ref x0), .val (.ref x1), .val (.int x2)] [] := by first | (simp [entryFrame, mkF, argsToLocals, Value.category]; done) | rfl
def Q5 (Z : State) (a1 : Addr) (a2 : Addr) (p3 : Int32) (h0 : Heap) (n0 : Nat) (v : Option Value) (h : Heap) (L : List Loc) : Prop := v = none ∧ Fr n0 L ∧ Keep h0 h [a1] ∧ Exa Z h a1 "com/example/horne/horne/term/Indicator" ∧ Fld Z h a1 "com/example/horne/horne/term/Indicator" "name" "Ljava/lang/String;" (.ref a2) ∧ Fld Z h a1 "com/example/horne/horne/term/Indicator" "arity" "I" (.int p3)
set_option maxRecDepth 65536 in
set_option maxHeartbeats 40000000 in
theorem rm5 (l : Launch) (Z : State) (a0 : Array Value) (hw : ∀ d ∈ tables_1, d.before a0 Z = true) (ws : List Jvm.Cond) (a1 : Addr) (a2 : Addr) (p3 : Int32) (h0 : Heap) (n0 : Nat) (Z0 : n0 ≤ h0.size) (pE1 : Exa Z h0 a1 "com/example/horne/horne/term/Indicator") (pE2 : Exa Z h0 a2 "java/lang/String") (pF1 : Fld Z h0 a1 "com/example/horne/horne/term/Indicator" "name" "Ljava/lang/String;" .null) (pF2 : Fld Z h0 a1 "com/example/horne/horne/term/Indicator" "arity" "I" (.int 0)) (pg1 : n0 ≤ a1) :
    MetFree l own_m1 (head1 (Jvm.Cond.code own_m1 prog_68_method_1_code 3 none :: ws) (own_r 1 2 20 14)) (fun a U => a = #[(.ref a1), (.ref a2), (.int p3)] ∧ Z.Warmed39 U.vm ∧ U.heap = h0) (fun _ _ _ _ _ => True) (fun _ U o U' => ∃ v L, o = .returned v ∧ Q5 Z a1 a2 p3 h0 n0 v U'.heap L ∧ ReturnedEndW U o U' L (own_r 1 2 20 14).cells (own_r 1 2 20 14).slots) := by
  refine MetFree.of_bodySF (plainFor_of_name pn_5) hisR ?_
  intro p e s m args below meth c s₁ Bd hml0 hP hK
  obtain ⟨rfl, hZ, hh⟩ := hP
  have hx := Bd.exec
  have hby := Bd.bytes
  have hml : c.maxLocals = 3 := hml0
  have hown0 := findClass_of_methodNamed Bd.named
  have hown : s.vm.findClass "com/example/horne/horne/term/Indicator" = some m.cls := hown0
  have hnm := (name_of_methodNamed Bd.named Bd.method).1
  have X0 : Stand p l e (own_r 1 2 20 14) s m #[(.ref a1), (.ref a2), (.int p3)] below meth c s₁ [] 0 0 := Stand.of_body Bd
  have e0 : s₁.heap = h0 := by rw [← hh, Bd.state]; rfl
  have N0 := Fr.nil n0
  obtain ⟨S0, hS0⟩ : ∃ z, z = s₁.setTop (entryFrame m #[(.ref a1), (.ref a2), (.int p3)] 3) := ⟨_, rfl⟩
  have pre0 : own_Go p e below S0 (s₁.setTop (mkF m 0 #[.val (.ref a1), .val (.ref a2), .val (.int p3)] [])) := fun t k => by rw [hS0]; exact castTop (ef_5 m a1 a2 p3) k
  have fin : ∀ t, Steps p.tables e below S0 t → Steps p.tables e below (s₁.setTop (entryFrame m #[(.ref a1), (.ref a2), (.int p3)] 3)) t := fun t k => by rw [hS0] at k; exact k
  have kc0 : Keep h0 h0 [a1] := Keep.refl _ _
  have pre1 : own_Go p e below S0 (s₁.setTop (mkF m 1 #[.val (.ref a1), .val (.ref a2), .val (.int p3)] [(.ref a1)])) := by
    intro t kt
    refine pre0 t ?_
    refine XS.aloadN X0.here hx rfl (hb hby d5_0) rfl rfl ?_
    exact kt
  obtain ⟨T2, X2, e2, st2⟩ := initO X0 hx hZ hown (hw _ (own_w 32 rfl)) (hw _ (own_w 16 rfl)) (hw _ (own_w 17 rfl)) e0 (g := (mkF m 1 #[.val (.ref a1), .val (.ref a2), .val (.int p3)] [(.ref a1)])) rfl (by rw [hml]; rfl) rfl (hb hby d5_1) (by decide) (W := 0) (by show 2 * 0 + _ ≤ _; exact Nat.le_of_eq rfl) (by decide)
  have pre3 : own_Go p e below S0 (T2.setTop (mkF m 6 #[.val (.ref a1), .val (.ref a2), .val (.int p3)] [(.ref a2), (.ref a1)])) := by
    intro t kt
    refine pre1 t ?_
    refine st2 _ ?_
    refine XS.aloadN X2.here hx rfl (hb hby d5_4) rfl rfl ?_
    refine XS.aloadN X2.here hx rfl (hb hby d5_5) rfl rfl ?_
    exact kt
  obtain ⟨b4, T4, h4, k4, X4, e4, E4, hS4, hk4, hZ, hown, st4⟩ := ldcS (s := s) (vm0 := s.vm) X2 hx hZ hown (hw _ (own_w 33 rfl)) (own_strAtoms a0 Z hw) e2 (own_since s 0) (Nat.zero_le _) (g := (mkF m 6 #[.val (.ref a1), .val (.ref a2), .val (.int p3)] [(.ref a2), (.ref a1)])) rfl (hb hby d5_6) (n := 16) (by decide +kernel) (by decide) (by decide) (by decide)
  have zs5 : n0 ≤ h4.size := Nat.le_trans Z0 E4.1
  have kc6 : Keep h0 h4 [a1] := kc0.ext E4
  have pre7 : own_Go p e below S0 (T4.setTop (mkF m 8 #[.val (.ref a1), .val (.ref a2), .val (.int p3)] [(.ref b4), (.ref a2), (.ref a1)])) := by
    intro t kt
    refine pre3 t ?_
    refine st4 _ ?_
    exact kt
  obtain ⟨_, _, ⟨T8, L8, k8, n8⟩, -, X8, ⟨Lc8, hQ8, l8, y8, z8⟩, st8⟩ := Jvm.LawKit.callS X4 hx (y := own_m14) hown (mvT hZ (hw _ (own_w 34 rfl))) (mvT hZ (hw _ (own_w 35 rfl))) (mvT hZ (hw _ (own_w 36 rfl))) (mvT hZ (hw _ (own_w 37 rfl))) (by decide) (backOf (W := 1) (rm6 l Z a0 hw [] a2 b4 h4 n0 zs5 ) hZ (hw _ (own_w 37 rfl)) (hw _ (own_w 36 rfl)) (by decide) (by decide)) (g := (mkF m 8 #[.val (.ref a1), .val (.ref a2), .val (.int p3)] [(.ref b4), (.ref a2), (.ref a1)])) rfl (by rw [hml]; rfl) (argsL := [(.ref a2), (.ref b4)]) (rest := [(.ref a1)]) (lenOf pd_7 rfl) rfl (by show 2 * 0 + _ ≤ _; exact Nat.le_of_eq rfl) (hb hby d5_8) (fun _ _ => ⟨rfl, e4, (by decide : 2 + 0 ≤ _), (by decide : 20 + 0 ≤ _)⟩)
  dsimp only [Pt.U, Pt.locs, Pt.cells, Pt.slots] at X8 l8 y8 z8 st8 hQ8
  subst l8 y8 z8
  obtain ⟨rfl, Nq8, eq8⟩ := hQ8
  have N8 := Fr.app N0 Nq8
  have pre9 : own_Go p e below S0 (T8.setTop (mkF m 11 #[.val (.ref a1), .val (.ref a2), .val (.int p3)] [(.ref a2), (.ref a1)])) := by
    intro t kt
    refine pre7 t ?_
    refine st8 _ ?_
    show Steps p.tables e below (T8.setTop (mkF m 11 #[.val (.ref a1), .val (.ref a2), .val (.int p3)] [(.ref a2), (.ref a1)])) _
    exact kt
  have f10 : Exa Z h4 a2 "java/lang/String" := (pE2.ext E4)
  obtain ⟨T11, X11, e11, st11⟩ := castY X8 hx hZ hown (hw _ (own_w 38 rfl)) eq8 (Ins.self f10) (g := (mkF m 11 #[.val (.ref a1), .val (.ref a2), .val (.int p3)] [(.ref a2), (.ref a1)])) rfl rfl (hb hby d5_11)
  have pre12 : own_Go p e below S0 (T11.setTop (mkF m 14 #[.val (.ref a1), .val (.ref a2), .val (.int p3)] [(.ref a2), (.ref a1)])) := by
    intro t kt
    refine pre9 t ?_
    refine st11 _ ?_
    exact kt
  have f13 : Fld Z h4 a1 "com/example/horne/horne/term/Indicator" "name" "Ljava/lang/String;" .null := (pF1.ext E4)
  have f14 : Exa Z h4 a1 "com/example/horne/horne/term/Indicator" := (pE1.ext E4)
  obtain ⟨T15, h15, X15, e15, W15, st15⟩ := putF X11 hx hZ hown (host := "") (Or.inl (hw _ (own_w 39 rfl))) Via.refl e11 f13 f14 (Or.inr ⟨(hw _ (own_w 40 rfl)), rfl, hnm⟩) (hw _ (own_w 27 rfl)) (ty := (.object "java/lang/String")) (by decide) rfl rfl (g := (mkF m 14 #[.val (.ref a1), .val (.ref a2), .val (.int p3)] [(.ref a2), (.ref a1)])) rfl rfl (hb hby d5_14)
  have N15 := Fr.snoc X15 N8 pg1
  have zs16 : n0 ≤ h15.size := Nat.le_trans zs5 (Keep.of_wr W15).1
  have kc17 : Keep h0 h15 [a1] := kc6.wr W15 (Or.inl (List.mem_of_getElem? (i := 0) rfl))
  have hk18 : _ ≤ h15.size := Nat.le_trans hk4 (Keep.of_wr W15).1
  have fw15 : Fld Z h15 a1 "com/example/horne/horne/term/Indicator" "name" "Ljava/lang/String;" (.ref a2) := f13.same W15
  have pre19 : own_Go p e below S0 (T15.setTop (mkF m 19 #[.val (.ref a1), .val (.ref a2), .val (.int p3)] [(.int p3), (.ref a1)])) := by
    intro t kt
    refine pre12 t ?_
    refine st15 _ ?_
    refine XS.aloadN X15.here hx rfl (hb hby d5_17) rfl rfl ?_
    refine XS.iloadN X15.here hx rfl (hb hby d5_18) rfl ?_
    exact kt
  have f20 : Fld Z h15 a1 "com/example/horne/horne/term/Indicator" "arity" "I" (.int 0) := ((pF2.ext E4).other W15 (Or.inr (slot_ne (Or.inr (hw _ (own_w 42 rfl))) (Or.inr (hw _ (own_w 40 rfl))) (by decide) (t := .int) (t' := (.object "java/lang/String")) (by decide) (by decide))))
  have f21 : Exa Z h15 a1 "com/example/horne/horne/term/Indicator" := (f14.wr W15)
  obtain ⟨T22, h22, X22, e22, W22, st22⟩ := putF X15 hx hZ hown (host := "") (Or.inl (hw _ (own_w 41 rfl))) Via.refl e15 f20 f21 (Or.inr ⟨(hw _ (own_w 42 rfl)), rfl, hnm⟩) (hw _ (own_w 27 rfl)) (ty := .int) (by decide) rfl rfl (g := (mkF m 19 #[.val (.ref a1), .val (.ref a2), .val (.int p3)] [(.int p3), (.ref a1)])) rfl rfl (hb hby d5_19)
  have N22 := Fr.snoc X22 N15 pg1
  have zs23 : n0 ≤ h22.size := Nat.le_trans zs16 (Keep.of_wr W22).1
  have kc24 : Keep h0 h22 [a1] := kc17.wr W22 (Or.inl (List.mem_of_getElem? (i := 0) rfl))
  have hk25 : _ ≤ h22.size := Nat.le_trans hk18 (Keep.of_wr W22).1
  have fw22 : Fld Z h22 a1 "com/example/horne/horne/term/Indicator" "arity" "I" (.int p3) := f20.same W22
  have pre26 : own_Go p e below S0 (T22.setTop (mkF m 22 #[.val (.ref a1), .val (.ref a2), .val (.int p3)] [])) := by
    intro t kt
    refine pre19 t ?_
    refine st22 _ ?_
    exact kt
  obtain ⟨fs, hr, hrun, hended, hRW⟩ := Stand.leaveW (s := s) (vm₁ := T4.vm) X22 hS4 (by rw [e22]; exact hk25) (v := none) (fun _ => rfl)
  refine ⟨_, _, fin _ (pre26 _ ?_), hrun, hended, _, _, rfl, ?_, own_wideMono hRW (by decide) (by decide)⟩
  · exact X22.returnOut hx Bd.returns (hb hby d5_22) hr
  have f27 : Exa Z h22 a1 "com/example/horne/horne/term/Indicator" := (f21.wr W22)
  have f28 : Fld Z h22 a1 "com/example/horne/horne/term/Indicator" "name" "Ljava/lang/String;" (.ref a2) := (fw15.other W22 (Or.inr (slot_ne (Or.inr (hw _ (own_w 40 rfl))) (Or.inr (hw _ (own_w 42 rfl))) (by decide) (t := (.object "java/lang/String")) (t' := .int) (by decide) (by decide))))
  · show Q5 Z a1 a2 p3 h0 n0 _ T22.heap _
    rw [e22]
    exact ⟨rfl, N22, kc24, f27, f28, fw22⟩

theorem d8_0 : decode prog_78_method_1_code 0 = .ok (.aload_n 0, 1) := by decide +kernel
theorem d8_1 : decode prog_78_method_1_code 1 = .ok (.invokespecial 1, 3) := by decide +kernel
theorem d8_4 : decode prog_78_method_1_code 4 = .ok (.return_, 1) := by decide +kernel
theorem pn_8 : plainName "com/example/horne/horne/term/Term" = true := by first | (simp [plainName, overriddenIn]; done) | decide +kernel
theorem ef_8 (m : MethodId) (x0 : Addr) : entryFrame m #[(.ref x0)] 1 = mkF m 0 #[.val (.ref x0)] [] := by first | (simp [entryFrame, mkF, argsToLocals, Value.category]; done) | rfl
def Q8 (Z : State) (a1 : Addr) (h0 : Heap) (n0 : Nat) (v : Option Value) (h : Heap) (L : List Loc) : Prop := v = none ∧ Fr n0 L ∧ h = h0
set_option maxRecDepth 65536 in
set_option maxHeartbeats 40000000 in
theorem rm8 (l : Launch) (Z : State) (a0 : Array Value) (hw : ∀ d ∈ tables_1, d.before a0 Z = true) (ws : List Jvm.Cond) (a1 : Addr) (h0 : Heap) (n0 : Nat) (Z0 : n0 ≤ h0.size) :
    MetFree l own_m6 (head1 (Jvm.Cond.code own_m6 prog_78_method_1_code 1 none :: ws) (own_r 1 0 0 12)) (fun a U => a = #[(.ref a1)] ∧ Z.Warmed39 U.vm ∧ U.heap = h0) (fun _ _ _ _ _ => True) (fun _ U o U' => ∃ v L, o = .returned v ∧ Q8 Z a1 h0 n0 v U'.heap L ∧ FrameEnd U o U' L (own_r 1 0 0 12).cells (own_r 1 0 0 12).slots) := by
  refine MetFree.of_bodySF (plainFor_of_name pn_8) hisR ?_
  intro p e s m args below meth c s₁ Bd hml0 hP hK
  obtain ⟨rfl, hZ, hh⟩ := hP
  have hx := Bd.exec
  have hby := Bd.bytes
  have hml : c.maxLocals = 1 := hml0
  have hown0 := findClass_of_methodNamed Bd.named
  have hown : s.vm.findClass "com/example/horne/horne/term/Term" = some m.cls := hown0
  have hnm := (name_of_methodNamed Bd.named Bd.method).1
  have X0 : Stand p l e (own_r 1 0 0 12) s m #[(.ref a1)] below meth c s₁ [] 0 0 := Stand.of_body Bd
  have e0 : s₁.heap = h0 := by rw [← hh, Bd.state]; rfl
  have N0 := Fr.nil n0
  obtain ⟨S0, hS0⟩ : ∃ z, z = s₁.setTop (entryFrame m #[(.ref a1)] 1) := ⟨_, rfl⟩
  have pre0 : own_Go p e below S0 (s₁.setTop (mkF m 0 #[.val (.ref a1)] [])) := fun t k => by rw [hS0]; exact castTop (ef_8 m a1) k
  have fin : ∀ t, Steps p.tables e below S0 t → Steps p.tables e below (s₁.setTop (entryFrame m #[(.ref a1)] 1)) t := fun t k => by rw [hS0] at k; exact k
  have pre1 : own_Go p e below S0 (s₁.setTop (mkF m 1 #[.val (.ref a1)] [(.ref a1)])) := by
    intro t kt
    refine pre0 t ?_
    refine XS.aloadN X0.here hx rfl (hb hby d8_0) rfl rfl ?_
    exact kt
  obtain ⟨T2, X2, e2, st2⟩ := initO X0 hx hZ hown (hw _ (own_w 54 rfl)) (hw _ (own_w 16 rfl)) (hw _ (own_w 17 rfl)) e0 (g := (mkF m 1 #[.val (.ref a1)] [(.ref a1)])) rfl (by rw [hml]; rfl) rfl (hb hby d8_1) (by decide) (W := 0) (by show 2 * 0 + _ ≤ _; exact Nat.le_of_eq rfl) (by decide)
  have pre3 : own_Go p e below S0 (T2.setTop (mkF m 4 #[.val (.ref a1)] [])) := by
    intro t kt
    refine pre1 t ?_
    refine st2 _ ?_
    exact kt
  obtain ⟨fs, hr, hrun, hended, hW, hsame⟩ := X2.leave (v := none) (fun _ => rfl)
  refine ⟨_, _, fin _ (pre3 _ ?_), hrun, hended, _, _, rfl, ?_, ⟨_, rfl⟩, hW, hsame.mono (by decide) (by decide)⟩
  · exact X2.returnOut hx Bd.returns (hb hby d8_4) hr
  · show Q8 Z a1 h0 n0 _ T2.heap _
    rw [e2]
    exact ⟨rfl, N0, rfl⟩

theorem d7_0 : decode prog_62_method_1_code 0 = .ok (.aload_n 0, 1) := by decide +kernel
theorem d7_1 : decode prog_62_method_1_code 1 = .ok (.invokespecial 1, 3) := by decide +kernel
theorem d7_4 : decode prog_62_method_1_code 4 = .ok (.aload_n 0, 1) := by decide +kernel
theorem d7_5 : decode prog_62_method_1_code 5 = .ok (.aload_n 1, 1) := by decide +kernel
theorem d7_6 : decode prog_62_method_1_code 6 = .ok (.ldc 7, 2) := by decide +kernel
theorem d7_8 : decode prog_62_method_1_code 8 = .ok (.invokestatic 9, 3) := by decide +kernel
theorem d7_11 : decode prog_62_method_1_code 11 = .ok (.checkcast 15, 3) := by decide +kernel
theorem d7_14 : decode prog_62_method_1_code 14 = .ok (.putfield 17, 3) := by decide +kernel
theorem d7_17 : decode prog_62_method_1_code 17 = .ok (.return_, 1) := by decide +kernel
theorem pn_7 : plainName "com/example/horne/horne/term/Atom" = true := by first | (simp [plainName, overriddenIn]; done) | decide +kernel
theorem pd_8 : parseMethodDescriptor "()V" = some ⟨[], none⟩ := by decide +kernel
theorem ef_7 (m : MethodId) (x0 : Addr) (x1 : Addr) : entryFrame m #[(.ref x0), (.ref x1)] 2 = mkF m 0 #[.val (.ref x0), .val (.ref x1)] [] := by first | (simp [entryFrame, mkF, argsToLocals, Value.category]; done) | rfl
def Q7 (Z : State) (a1 : Addr) (a2 : Addr) (h0 : Heap) (n0 : Nat) (v : Option Value) (h : Heap) (L : List Loc) : Prop := v = none ∧ Fr n0 L ∧ Keep h0 h [a1] ∧ Exa Z h a1 "com/example/horne/horne/term/Atom"
set_option maxRecDepth 65536 in
set_option maxHeartbeats 40000000 in
theorem rm7 (l : Launch) (Z : State) (a0 : Array Value) (hw : ∀ d ∈ tables_1, d.before a0 Z = true) (ws : List Jvm.Cond) (a1 : Addr) (a2 : Addr) (h0 : Heap) (n0 : Nat) (Z0 : n0 ≤ h0.size) (pE1 : Exa Z h0 a1 "com/example/horne/horne/term/Atom") (pE2 : Exa Z h0 a2 "java/lang/String") (pF1 : Fld Z h0 a1 "com/example/horne/horne/term/Atom" "name" "Ljava/lang/String;" .null) (pg1 : n0 ≤ a1) :
    MetFree l own_m0 (head1 (Jvm.Cond.code own_m0 prog_62_method_1_code 2 none :: ws) (own_r 2 2 20 24)) (fun a U => a = #[(.ref a1), (.ref a2)] ∧ Z.Warmed39 U.vm ∧ U.heap = h0) (fun _ _ _ _ _ => True) (fun _ U o U' => ∃ v L, o = .returned v ∧ Q7 Z a1 a2 h0 n0 v U'.heap L ∧ ReturnedEndW U o U' L (own_r 2 2 20 24).cells (own_r 2 2 20 24).slots) := by
  refine MetFree.of_bodySF (plainFor_of_name pn_7) hisR ?_
  intro p e s m args below meth c s₁ Bd hml0 hP hK
  obtain ⟨rfl, hZ, hh⟩ := hP
  have hx := Bd.exec
  have hby := Bd.bytes
  have hml : c.maxLocals = 2 := hml0
  have hown0 := findClass_of_methodNamed Bd.named
  have hown : s.vm.findClass "com/example/horne/horne/term/Atom" = some m.cls := hown0
  have hnm := (name_of_methodNamed Bd.named Bd.method).1
  have X0 : Stand p l e (own_r 2 2 20 24) s m #[(.ref a1), (.ref a2)] below meth c s₁ [] 0 0 := Stand.of_body Bd
  have e0 : s₁.heap = h0 := by rw [← hh, Bd.state]; rfl
  have N0 := Fr.nil n0
  obtain ⟨S0, hS0⟩ : ∃ z, z = s₁.setTop (entryFrame m #[(.ref a1), (.ref a2)] 2) := ⟨_, rfl⟩
  have pre0 : own_Go p e below S0 (s₁.setTop (mkF m 0 #[.val (.ref a1), .val (.ref a2)] [])) := fun t k => by rw [hS0]; exact castTop (ef_7 m a1 a2) k
  have fin : ∀ t, Steps p.tables e below S0 t → Steps p.tables e below (s₁.setTop (entryFrame m #[(.ref a1), (.ref a2)] 2)) t := fun t k => by rw [hS0] at k; exact k
  have kc0 : Keep h0 h0 [a1] := Keep.refl _ _
  have pre1 : own_Go p e below S0 (s₁.setTop (mkF m 1 #[.val (.ref a1), .val (.ref a2)] [(.ref a1)])) := by
    intro t kt
    refine pre0 t ?_
    refine XS.aloadN X0.here hx rfl (hb hby d7_0) rfl rfl ?_
    exact kt
  obtain ⟨_, _, ⟨T2, L2, k2, n2⟩, -, X2, ⟨Lc2, hQ2, l2, y2, z2⟩, st2⟩ := X0.specialBack hx (y := own_m6) rfl hown (mvT hZ (hw _ (own_w 49 rfl))) (mvT hZ (hw _ (own_w 50 rfl))) (mvT hZ (hw _ (own_w 53 rfl))) (by decide) (backOf (W := 0) (rm8 l Z a0 hw [] a1 h0 n0 Z0 ) hZ (hw _ (own_w 53 rfl)) (hw _ (own_w 52 rfl)) (by decide) (by decide)) (g := (mkF m 1 #[.val (.ref a1), .val (.ref a2)] [(.ref a1)])) rfl (by rw [hml]; rfl) (Steps.refl _) (a := a1) (argsL := []) (rest := []) (lenOf pd_8 rfl) rfl (by show 2 * 0 + _ ≤ _; exact Nat.le_of_eq rfl) (hb hby d7_1) (fun _ _ => ⟨rfl, e0, (by decide : 0 + 0 ≤ _), (by decide : 0 + 0 ≤ _)⟩)
  dsimp only [Pt.U, Pt.locs, Pt.cells, Pt.slots] at X2 l2 y2 z2 st2 hQ2
  subst l2 y2 z2
  obtain ⟨rfl, Nq2, eq2⟩ := hQ2
  have N2 := Fr.app N0 Nq2
  have pre3 : own_Go p e below S0 (T2.setTop (mkF m 6 #[.val (.ref a1), .val (.ref a2)] [(.ref a2), (.ref a1)])) := by
    intro t kt
    refine pre1 t ?_
    refine st2.trans ?_
    show Steps p.tables e below (T2.setTop (mkF m 4 #[.val (.ref a1), .val (.ref a2)] [])) _
    refine XS.aloadN X2.here hx rfl (hb hby d7_4) rfl rfl ?_
    refine XS.aloadN X2.here hx rfl (hb hby d7_5) rfl rfl ?_
    exact kt
  obtain ⟨b4, T4, h4, k4, X4, e4, E4, hS4, hk4, hZ, hown, st4⟩ := ldcS (s := s) (vm0 := s.vm) X2 hx hZ hown (hw _ (own_w 55 rfl)) (own_strAtoms a0 Z hw) eq2 (own_since s 0) (Nat.zero_le _) (g := (mkF m 6 #[.val (.ref a1), .val (.ref a2)] [(.ref a2), (.ref a1)])) rfl (hb hby d7_6) (n := 16) (by decide +kernel) (by decide) (by decide) (by decide)
  have zs5 : n0 ≤ h4.size := Nat.le_trans Z0 E4.1
  have kc6 : Keep h0 h4 [a1] := kc0.ext E4
  have pre7 : own_Go p e below S0 (T4.setTop (mkF m 8 #[.val (.ref a1), .val (.ref a2)] [(.ref b4), (.ref a2), (.ref a1)])) := by
    intro t kt
    refine pre3 t ?_
    refine st4 _ ?_
    exact kt
  obtain ⟨_, _, ⟨T8, L8, k8, n8⟩, -, X8, ⟨Lc8, hQ8, l8, y8, z8⟩, st8⟩ := Jvm.LawKit.callS X4 hx (y := own_m14) hown (mvT hZ (hw _ (own_w 56 rfl))) (mvT hZ (hw _ (own_w 35 rfl))) (mvT hZ (hw _ (own_w 36 rfl))) (mvT hZ (hw _ (own_w 37 rfl))) (by decide) (backOf (W := 1) (rm6 l Z a0 hw [] a2 b4 h4 n0 zs5 ) hZ (hw _ (own_w 37 rfl)) (hw _ (own_w 36 rfl)) (by decide) (by decide)) (g := (mkF m 8 #[.val (.ref a1), .val (.ref a2)] [(.ref b4), (.ref a2), (.ref a1)])) rfl (by rw [hml]; rfl) (argsL := [(.ref a2), (.ref b4)]) (rest := [(.ref a1)]) (lenOf pd_7 rfl) rfl (by show 2 * 0 + _ ≤ _; exact Nat.le_of_eq rfl) (hb hby d7_8) (fun _ _ => ⟨rfl, e4, (by decide : 2 + 0 ≤ _), (by decide : 20 + 0 ≤ _)⟩)
  dsimp only [Pt.U, Pt.locs, Pt.cells, Pt.slots] at X8 l8 y8 z8 st8 hQ8
  subst l8 y8 z8
  obtain ⟨rfl, Nq8, eq8⟩ := hQ8
  have N8 := Fr.app N2 Nq8
  have pre9 : own_Go p e below S0 (T8.setTop (mkF m 11 #[.val (.ref a1), .val (.ref a2)] [(.ref a2), (.ref a1)])) := by
    intro t kt
    refine pre7 t ?_
    refine st8 _ ?_
    show Steps p.tables e below (T8.setTop (mkF m 11 #[.val (.ref a1), .val (.ref a2)] [(.ref a2), (.ref a1)])) _
    exact kt
  have f10 : Exa Z h4 a2 "java/lang/String" := (pE2.ext E4)
  obtain ⟨T11, X11, e11, st11⟩ := castY X8 hx hZ hown (hw _ (own_w 57 rfl)) eq8 (Ins.self f10) (g := (mkF m 11 #[.val (.ref a1), .val (.ref a2)] [(.ref a2), (.ref a1)])) rfl rfl (hb hby d7_11)
  have pre12 : own_Go p e below S0 (T11.setTop (mkF m 14 #[.val (.ref a1), .val (.ref a2)] [(.ref a2), (.ref a1)])) := by
    intro t kt
    refine pre9 t ?_
    refine st11 _ ?_
    exact kt
  have f13 : Fld Z h4 a1 "com/example/horne/horne/term/Atom" "name" "Ljava/lang/String;" .null := (pF1.ext E4)
  have f14 : Exa Z h4 a1 "com/example/horne/horne/term/Atom" := (pE1.ext E4)
  obtain ⟨T15, h15, X15, e15, W15, st15⟩ := putF X11 hx hZ hown (host := "") (Or.inl (hw _ (own_w 58 rfl))) Via.refl e11 f13 f14 (Or.inr ⟨(hw _ (own_w 59 rfl)), rfl, hnm⟩) (hw _ (own_w 44 rfl)) (ty := (.object "java/lang/String")) (by decide) rfl rfl (g := (mkF m 14 #[.val (.ref a1), .val (.ref a2)] [(.ref a2), (.ref a1)])) rfl rfl (hb hby d7_14)
  have N15 := Fr.snoc X15 N8 pg1
  have zs16 : n0 ≤ h15.size := Nat.le_trans zs5 (Keep.of_wr W15).1
  have kc17 : Keep h0 h15 [a1] := kc6.wr W15 (Or.inl (List.mem_of_getElem? (i := 0) rfl))
  have hk18 : _ ≤ h15.size := Nat.le_trans hk4 (Keep.of_wr W15).1
  have fw15 : Fld Z h15 a1 "com/example/horne/horne/term/Atom" "name" "Ljava/lang/String;" (.ref a2) := f13.same W15
  have pre19 : own_Go p e below S0 (T15.setTop (mkF m 17 #[.val (.ref a1), .val (.ref a2)] [])) := by
    intro t kt
    refine pre12 t ?_
    refine st15 _ ?_
    exact kt
  obtain ⟨fs, hr, hrun, hended, hRW⟩ := Stand.leaveW (s := s) (vm₁ := T4.vm) X15 hS4 (by rw [e15]; exact hk18) (v := none) (fun _ => rfl)
  refine ⟨_, _, fin _ (pre19 _ ?_), hrun, hended, _, _, rfl, ?_, own_wideMono hRW (by decide) (by decide)⟩
  · exact X15.returnOut hx Bd.returns (hb hby d7_17) hr
  have f20 : Exa Z h15 a1 "com/example/horne/horne/term/Atom" := (f14.wr W15)
  · show Q7 Z a1 a2 h0 n0 _ T15.heap _
    rw [e15]
    exact ⟨rfl, N15, kc17, f20⟩

theorem own_notinst (Z : State) (a0 : Array Value) (hw : ∀ d ∈ tables_1, d.before a0 Z = true) : ∃ c t, Z.vm.findClass "com/example/horne/horne/term/Atom" = some c ∧ Z.vm.findClass "com/example/horne/horne/term/Indicator" = some t ∧ Z.vm.assignable c t = false := by
  have w1 := (hw _ (own_w 66 rfl))
  have w2 := (hw _ (own_w 67 rfl))
  have w3 := (hw _ (own_w 68 rfl))
  have w4 := (hw _ (own_w 27 rfl))
  obtain ⟨t, kt, g0, g2, g5, g7, -, -⟩ := Cond.instantiable_spec w4
  have n1 : NS Z "java/lang/Object" "com/example/horne/horne/term/Indicator" := by
    obtain ⟨c, k, h1, h2, h3, -, -⟩ := Cond.noSuperclass_spec w3
    have ne := ids_ne h1 g0 (by decide)
    refine ⟨c, t, h1, g0, fun fuel => ?_⟩
    cases fuel with
    | zero => rfl
    | succ f => simp [Vm.isSubclassAux, ne, h2, h3]
  have n2 := NS.step w2 n1 (by decide)
  have n3 := NS.step w1 n2 (by decide)
  obtain ⟨c, t', h0, g0', n4⟩ := n3
  cases g0.symm.trans g0'
  obtain ⟨p, k, kp, h1, h2, h3, h4, h5, -, h7⟩ := Cond.superclass_spec h0 w1
  have ne := ids_ne h0 g0 (by decide)
  simp only [Bool.or_eq_false_iff] at g7
  refine ⟨c, t, h0, g0, ?_⟩
  show Z.vm.assignableAux (255 + 1) c t = false
  simp [Vm.assignableAux, ne, h2, g2, h5, g5, g7.1, Vm.isSubclass, n4]

theorem d9_0 : decode prog_68_method_4_code 0 = .ok (.aload_n 1, 1) := by decide +kernel
theorem d9_1 : decode prog_68_method_4_code 1 = .ok (.instanceof 18, 3) := by decide +kernel
theorem d9_4 : decode prog_68_method_4_code 4 = .ok (.ifCond .eq 37, 3) := by decide +kernel
theorem d9_7 : decode prog_68_method_4_code 7 = .ok (.aload_n 1, 1) := by decide +kernel
theorem d9_8 : decode prog_68_method_4_code 8 = .ok (.checkcast 18, 3) := by decide +kernel
theorem d9_11 : decode prog_68_method_4_code 11 = .ok (.astore_n 2, 1) := by decide +kernel
theorem d9_12 : decode prog_68_method_4_code 12 = .ok (.aload_n 0, 1) := by decide +kernel
theorem d9_13 : decode prog_68_method_4_code 13 = .ok (.getfield 22, 3) := by decide +kernel
theorem d9_16 : decode prog_68_method_4_code 16 = .ok (.aload_n 2, 1) := by decide +kernel
theorem d9_17 : decode prog_68_method_4_code 17 = .ok (.getfield 22, 3) := by decide +kernel
theorem d9_20 : decode prog_68_method_4_code 20 = .ok (.if_icmp .ne 21, 3) := by decide +kernel
theorem d9_23 : decode prog_68_method_4_code 23 = .ok (.aload_n 0, 1) := by decide +kernel
theorem d9_24 : decode prog_68_method_4_code 24 = .ok (.getfield 17, 3) := by decide +kernel
theorem d9_27 : decode prog_68_method_4_code 27 = .ok (.aload_n 2, 1) := by decide +kernel
theorem d9_28 : decode prog_68_method_4_code 28 = .ok (.getfield 17, 3) := by decide +kernel
theorem d9_31 : decode prog_68_method_4_code 31 = .ok (.invokevirtual 68, 3) := by decide +kernel
theorem d9_34 : decode prog_68_method_4_code 34 = .ok (.ifCond .eq 7, 3) := by decide +kernel
theorem d9_37 : decode prog_68_method_4_code 37 = .ok (.iconst 1, 1) := by decide +kernel
theorem d9_38 : decode prog_68_method_4_code 38 = .ok (.goto 4, 3) := by decide +kernel
theorem d9_41 : decode prog_68_method_4_code 41 = .ok (.iconst 0, 1) := by decide +kernel
theorem d9_42 : decode prog_68_method_4_code 42 = .ok (.ireturn, 1) := by decide +kernel
theorem pn_9 : plainName "com/example/horne/horne/term/Indicator" = true := by first | (simp [plainName, overriddenIn]; done) | decide +kernel
theorem pd_9 : parseMethodDescriptor "(Ljava/lang/Object;)Z" = some ⟨[(.object "java/lang/Object")], some .boolean⟩ := by decide +kernel
theorem ef_ieq (m : MethodId) (x0 : Addr) (x1 : Addr) : entryFrame m #[(.ref x0), (.ref x1)] 3 = mkF m 0 #[.val (.ref x0), .val (.ref x1), .unset] [] := by first | (simp [entryFrame, mkF, argsToLocals, Value.category]; done) | rfl
def own_ieq (u1 : Int32) (u2 : Int32) (cs1 : List Int32) (cs2 : List Int32) : Int32 := (if u1 = u2 then (if (own_seq cs1 cs2) = (0 : Int32) then (0 : Int32) else (1 : Int32)) else (0 : Int32))
def Qieq (Z : State) (a1 : Addr) (a2 : Addr) (u1 : Int32) (u2 : Int32) (t1 : Addr) (t2 : Addr) (wC : Int32) (vb1 : Addr) (kb1 : ClassId) (cs1 : List Int32) (vb2 : Addr) (kb2 : ClassId) (cs2 : List Int32) (h0 : Heap) (n0 : Nat) (v : Option Value) (h : Heap) (L : List Loc) : Prop := v = (some (.int (own_ieq u1 u2 cs1 cs2))) ∧ Fr n0 L ∧ h = h0
set_option maxRecDepth 65536 in
set_option maxHeartbeats 40000000 in
theorem rmieq (l : Launch) (Z : State) (a0 : Array Value) (hw : ∀ d ∈ tables_1, d.before a0 Z = true) (ws : List Jvm.Cond) (a1 : Addr) (a2 : Addr) (u1 : Int32) (u2 : Int32) (t1 : Addr) (t2 : Addr) (wC : Int32) (vb1 : Addr) (kb1 : ClassId) (cs1 : List Int32) (vb2 : Addr) (kb2 : ClassId) (cs2 : List Int32) (h0 : Heap) (n0 : Nat) (Z0 : n0 ≤ h0.size) (O0 : Old Z n0 h0) (qC : (own_SC Z wC)) (A0 : Exa Z h0 a1 "com/example/horne/horne/term/Indicator") (A1 : Fld Z h0 a1 "com/example/horne/horne/term/Indicator" "name" "Ljava/lang/String;" (.ref t1)) (A2 : Fld Z h0 a1 "com/example/horne/horne/term/Indicator" "arity" "I" (.int u1)) (B0 : Exa Z h0 a2 "com/example/horne/horne/term/Indicator") (B1 : Fld Z h0 a2 "com/example/horne/horne/term/Indicator" "name" "Ljava/lang/String;" (.ref t2)) (B2 : Fld Z h0 a2 "com/example/horne/horne/term/Indicator" "arity" "I" (.int u2)) (hS1 : own_StrL Z h0 t1 vb1 kb1 cs1) (hS2 : own_StrL Z h0 t2 vb2 kb2 cs2) (n12 : t1 ≠ t2) (s1 : (own_S3 cs1)) (s2 : (own_S3 cs2)) :
    MetFree l own_m2 (head1 (Jvm.Cond.code own_m2 prog_68_method_4_code 3 (some .boolean) :: ws) (own_r 2 0 0 28)) (fun a U => a = #[(.ref a1), (.ref a2)] ∧ Z.Warmed39 U.vm ∧ U.heap = h0) (fun _ _ _ _ _ => True) (fun _ U o U' => ∃ v L, o = .returned v ∧ Qieq Z a1 a2 u1 u2 t1 t2 wC vb1 kb1 cs1 vb2 kb2 cs2 h0 n0 v U'.heap L ∧ FrameEnd U o U' L (own_r 2 0 0 28).cells (own_r 2 0 0 28).slots) := by
  refine MetFree.of_bodySF (plainFor_of_name pn_9) hisR ?_
  intro p e s m args below meth c s₁ Bd hml0 hP hK
  obtain ⟨rfl, hZ, hh⟩ := hP
  have hx := Bd.exec
  have hby := Bd.bytes
  have hml : c.maxLocals = 3 := hml0
  have hown0 := findClass_of_methodNamed Bd.named
  have hown : s.vm.findClass "com/example/horne/horne/term/Indicator" = some m.cls := hown0
  have hnm := (name_of_methodNamed Bd.named Bd.method).1
  have X0 : Stand p l e (own_r 2 0 0 28) s m #[(.ref a1), (.ref a2)] below meth c s₁ [] 0 0 := Stand.of_body Bd
  have e0 : s₁.heap = h0 := by rw [← hh, Bd.state]; rfl
  have N0 := Fr.nil n0
  obtain ⟨S0, hS0⟩ : ∃ z, z = s₁.setTop (entryFrame m #[(.ref a1), (.ref a2)] 3) := ⟨_, rfl⟩
  have pre0 : own_Go p e below S0 (s₁.setTop (mkF m 0 #[.val (.ref a1), .val (.ref a2), .unset] [])) := fun t k => by rw [hS0]; exact castTop (ef_ieq m a1 a2) k
  have fin : ∀ t, Steps p.tables e below S0 t → Steps p.tables e below (s₁.setTop (entryFrame m #[(.ref a1), (.ref a2)] 3)) t := fun t k => by rw [hS0] at k; exact k
  have pre1 : own_Go p e below S0 (s₁.setTop (mkF m 1 #[.val (.ref a1), .val (.ref a2), .unset] [(.ref a2)])) := by
    intro t kt
    refine pre0 t ?_
    refine XS.aloadN X0.here hx rfl (hb hby d9_0) rfl rfl ?_
    exact kt
  obtain ⟨T2, X2, e2, st2⟩ := instY X0 hx hZ hown (hw _ (own_w 65 rfl)) e0 (Ins.self B0) (g := (mkF m 1 #[.val (.ref a1), .val (.ref a2), .unset] [(.ref a2)])) rfl rfl (hb hby d9_1)
  have pre3 : own_Go p e below S0 (T2.setTop (mkF m 8 #[.val (.ref a1), .val (.ref a2), .unset] [(.ref a2)])) := by
    intro t kt
    refine pre1 t ?_
    refine st2 _ ?_
    refine XS.ifNo X2.here hx rfl (hb hby d9_4) rfl ((if0 _ _).trans (feq (by decide : ¬ ((1 : Int32) = (0 : Int32)))).1) ?_
    refine XS.aloadN X2.here hx rfl (hb hby d9_7) rfl rfl ?_
    exact kt
  obtain ⟨T4, X4, e4, st4⟩ := castY X2 hx hZ hown (hw _ (own_w 65 rfl)) e2 (Ins.self B0) (g := (mkF m 8 #[.val (.ref a1), .val (.ref a2), .unset] [(.ref a2)])) rfl rfl (hb hby d9_8)
  have pre5 : own_Go p e below S0 (T4.setTop (mkF m 13 #[.val (.ref a1), .val (.ref a2), .val (.ref a2)] [(.ref a1)])) := by
    intro t kt
    refine pre3 t ?_
    refine st4 _ ?_
    refine XS.astoreN X4.here hx rfl (hb hby d9_11) rfl rfl (l' := #[.val (.ref a1), .val (.ref a2), .val (.ref a2)]) rfl ?_
    refine XS.aloadN X4.here hx rfl (hb hby d9_12) rfl rfl ?_
    exact kt
  obtain ⟨T6, X6, e6, st6⟩ := getF X4 hx hZ hown (host := "") (Or.inl (hw _ (own_w 41 rfl))) Via.refl e4 A2 (g := (mkF m 13 #[.val (.ref a1), .val (.ref a2), .val (.ref a2)] [(.ref a1)])) rfl rfl (hb hby d9_13)
  have pre7 : own_Go p e below S0 (T6.setTop (mkF m 17 #[.val (.ref a1), .val (.ref a2), .val (.ref a2)] [(.ref a2), (.int u1)])) := by
    intro t kt
    refine pre5 t ?_
    refine st6 _ ?_
    refine XS.aloadN X6.here hx rfl (hb hby d9_16) rfl rfl ?_
    exact kt
  obtain ⟨T8, X8, e8, st8⟩ := getF X6 hx hZ hown (host := "") (Or.inl (hw _ (own_w 41 rfl))) Via.refl e6 B2 (g := (mkF m 17 #[.val (.ref a1), .val (.ref a2), .val (.ref a2)] [(.ref a2), (.int u1)])) rfl rfl (hb hby d9_17)
  have pre10 : own_Go p e below S0 (T8.setTop (mkF m 20 #[.val (.ref a1), .val (.ref a2), .val (.ref a2)] [(.int u2), (.int u1)])) := by
    intro t kt
    refine pre7 t ?_
    refine st8 _ ?_
    exact kt
  by_cases hc9 : u1 = u2
  · have pre11 : own_Go p e below S0 (T8.setTop (mkF m 24 #[.val (.ref a1), .val (.ref a2), .val (.ref a2)] [(.ref a1)])) := by
      intro t kt
      refine pre10 t ?_
      refine XS.icmpNo X8.here hx rfl (hb hby d9_20) rfl (teq hc9).2 ?_
      refine XS.aloadN X8.here hx rfl (hb hby d9_23) rfl rfl ?_
      exact kt
    obtain ⟨T12, X12, e12, st12⟩ := getF X8 hx hZ hown (host := "") (Or.inl (hw _ (own_w 39 rfl))) Via.refl e8 A1 (g := (mkF m 24 #[.val (.ref a1), .val (.ref a2), .val (.ref a2)] [(.ref a1)])) rfl rfl (hb hby d9_24)
    have pre13 : own_Go p e below S0 (T12.setTop (mkF m 28 #[.val (.ref a1), .val (.ref a2), .val (.ref a2)] [(.ref a2), (.ref t1)])) := by
      intro t kt
      refine pre11 t ?_
      refine st12 _ ?_
      refine XS.aloadN X12.here hx rfl (hb hby d9_27) rfl rfl ?_
      exact kt
    obtain ⟨T14, X14, e14, st14⟩ := getF X12 hx hZ hown (host := "") (Or.inl (hw _ (own_w 39 rfl))) Via.refl e12 B1 (g := (mkF m 28 #[.val (.ref a1), .val (.ref a2), .val (.ref a2)] [(.ref a2), (.ref t1)])) rfl rfl (hb hby d9_28)
    have pre15 : own_Go p e below S0 (T14.setTop (mkF m 31 #[.val (.ref a1), .val (.ref a2), .val (.ref a2)] [(.ref t2), (.ref t1)])) := by
      intro t kt
      refine pre13 t ?_
      refine st14 _ ?_
      exact kt
    obtain ⟨cq16, kq16, qa16, qb16, qc16⟩ := isOf hZ e14 hS1.1
    obtain ⟨_, _, ⟨T16, L16, k16, n16⟩, -, X16, ⟨Lc16, hQ16, l16, y16, z16⟩, st16⟩ := X14.virtualBack hx (y := own_m9) (z := own_m9) hown (mvT hZ (hw _ (own_w 84 rfl))) (mvT hZ (hw _ (own_w 85 rfl))) (notFace_of_selects (args := #[]) (mvT hZ (hw _ (own_w 87 rfl)))) (mvT hZ (hw _ (own_w 87 rfl))) (mvT hZ (hw _ (own_w 86 rfl))) (by decide) (backOf (W := 0) (rmseq l Z a0 hw [] t1 t2 wC vb1 kb1 cs1 vb2 kb2 cs2 h0 n0 Z0 O0 qC hS1 hS2 n12 s1 s2) hZ (hw _ (own_w 88 rfl)) (hw _ (own_w 7 rfl)) (by decide) (by decide)) qa16 qc16 (g := (mkF m 31 #[.val (.ref a1), .val (.ref a2), .val (.ref a2)] [(.ref t2), (.ref t1)])) rfl (by rw [hml]; rfl) (Steps.refl _) (argsL := [(.ref t2)]) (rest := []) (lenOf pd_9 rfl) rfl (by show 2 * 0 + _ ≤ _; exact Nat.le_of_eq rfl) (hb hby d9_31) (fun _ _ => ⟨rfl, e14, (by decide : 0 + 0 ≤ _), (by decide : 0 + 0 ≤ _)⟩)
    dsimp only [Pt.U, Pt.locs, Pt.cells, Pt.slots] at X16 l16 y16 z16 st16 hQ16
    subst l16 y16 z16
    obtain ⟨rfl, Nq16, eq16⟩ := hQ16
    have N16 := Fr.app N0 Nq16
    have pre18 : own_Go p e below S0 (T16.setTop (mkF m 34 #[.val (.ref a1), .val (.ref a2), .val (.ref a2)] [(.int (own_seq cs1 cs2))])) := by
      intro t kt
      refine pre15 t ?_
      refine st16.trans ?_
      show Steps p.tables e below (T16.setTop (mkF m 34 #[.val (.ref a1), .val (.ref a2), .val (.ref a2)] [(.int (own_seq cs1 cs2))])) _
      exact kt
    by_cases hc17 : (own_seq cs1 cs2) = (0 : Int32)
    · have pre19 : own_Go p e below S0 (T16.setTop (mkF m 42 #[.val (.ref a1), .val (.ref a2), .val (.ref a2)] [(.int 0)])) := by
        intro t kt
        refine pre18 t ?_
        refine XS.ifYes X16.here hx rfl (pc0 := 34) (pc' := 41) rfl (hb hby d9_34) rfl ((if0 _ _).trans (teq hc17).1) (by decide) (by decide) ?_
        refine XS.iconst X16.here hx rfl (hb hby d9_41) ?_
        exact kt
      obtain ⟨fs, hr, hrun, hended, hW, hsame⟩ := X16.leave (v := some (.int 0)) (fun h => by rw [Bd.returns] at h; cases h)
      refine ⟨_, _, fin _ (pre19 _ ?_), hrun, hended, _, _, rfl, ?_, ⟨_, rfl⟩, hW, hsame.mono (by decide) (by decide)⟩
      · exact retN X16 hx (t := .boolean) Bd.returns (by simp) (hb hby d9_42) hr
      · show Qieq Z a1 a2 u1 u2 t1 t2 wC vb1 kb1 cs1 vb2 kb2 cs2 h0 n0 _ T16.heap _
        rw [eq16]
        exact ⟨(by show some _ = some _; rw [own_ieq, if_pos hc9, if_pos hc17]), N16, rfl⟩
    · have pre20 : own_Go p e below S0 (T16.setTop (mkF m 42 #[.val (.ref a1), .val (.ref a2), .val (.ref a2)] [(.int 1)])) := by
        intro t kt
        refine pre18 t ?_
        refine XS.ifNo X16.here hx rfl (hb hby d9_34) rfl ((if0 _ _).trans (feq hc17).1) ?_
        refine XS.iconst X16.here hx rfl (hb hby d9_37) ?_
        refine XS.goto X16.here hx rfl (pc0 := 38) (pc' := 42) rfl (hb hby d9_38) (by decide) (by decide) ?_
        exact kt
      obtain ⟨fs, hr, hrun, hended, hW, hsame⟩ := X16.leave (v := some (.int 1)) (fun h => by rw [Bd.returns] at h; cases h)
      refine ⟨_, _, fin _ (pre20 _ ?_), hrun, hended, _, _, rfl, ?_, ⟨_, rfl⟩, hW, hsame.mono (by decide) (by decide)⟩
      · exact retN X16 hx (t := .boolean) Bd.returns (by simp) (hb hby d9_42) hr
      · show Qieq Z a1 a2 u1 u2 t1 t2 wC vb1 kb1 cs1 vb2 kb2 cs2 h0 n0 _ T16.heap _
        rw [eq16]
        exact ⟨(by show some _ = some _; rw [own_ieq, if_pos hc9, if_neg hc17]), N16, rfl⟩
  · have pre21 : own_Go p e below S0 (T8.setTop (mkF m 42 #[.val (.ref a1), .val (.ref a2), .val (.ref a2)] [(.int 0)])) := by
      intro t kt
      refine pre10 t ?_
      refine XS.icmpYes X8.here hx rfl (pc0 := 20) (pc' := 41) rfl (hb hby d9_20) rfl (feq hc9).2 (by decide) (by decide) ?_
      refine XS.iconst X8.here hx rfl (hb hby d9_41) ?_
      exact kt
    obtain ⟨fs, hr, hrun, hended, hW, hsame⟩ := X8.leave (v := some (.int 0)) (fun h => by rw [Bd.returns] at h; cases h)
    refine ⟨_, _, fin _ (pre21 _ ?_), hrun, hended, _, _, rfl, ?_, ⟨_, rfl⟩, hW, hsame.mono (by decide) (by decide)⟩
    · exact retN X8 hx (t := .boolean) Bd.returns (by simp) (hb hby d9_42) hr
    · show Qieq Z a1 a2 u1 u2 t1 t2 wC vb1 kb1 cs1 vb2 kb2 cs2 h0 n0 _ T8.heap _
      rw [e8]
      exact ⟨(by show some _ = some _; rw [own_ieq, if_neg hc9]), N0, rfl⟩

theorem ef_ieqS (m : MethodId) (x0 : Addr) (x1 : Addr) : entryFrame m #[(.ref x0), (.ref x1)] 3 = mkF m 0 #[.val (.ref x0), .val (.ref x1), .unset] [] := by first | (simp [entryFrame, mkF, argsToLocals, Value.category]; done) | rfl
def QieqS (Z : State) (a1 : Addr) (u1 : Int32) (t1 : Addr) (h0 : Heap) (n0 : Nat) (v : Option Value) (h : Heap) (L : List Loc) : Prop := v = (some (.int 1)) ∧ Fr n0 L ∧ h = h0
set_option maxRecDepth 65536 in
set_option maxHeartbeats 40000000 in
theorem rmieqS (l : Launch) (Z : State) (a0 : Array Value) (hw : ∀ d ∈ tables_1, d.before a0 Z = true) (ws : List Jvm.Cond) (a1 : Addr) (u1 : Int32) (t1 : Addr) (h0 : Heap) (n0 : Nat) (Z0 : n0 ≤ h0.size) (A0 : Exa Z h0 a1 "com/example/horne/horne/term/Indicator") (A1 : Fld Z h0 a1 "com/example/horne/horne/term/Indicator" "name" "Ljava/lang/String;" (.ref t1)) (A2 : Fld Z h0 a1 "com/example/horne/horne/term/Indicator" "arity" "I" (.int u1)) (pE2 : Exa Z h0 t1 "java/lang/String") :
    MetFree l own_m2 (head1 (Jvm.Cond.code own_m2 prog_68_method_4_code 3 (some .boolean) :: ws) (own_r 1 0 0 14)) (fun a U => a = #[(.ref a1), (.ref a1)] ∧ Z.Warmed39 U.vm ∧ U.heap = h0) (fun _ _ _ _ _ => True) (fun _ U o U' => ∃ v L, o = .returned v ∧ QieqS Z a1 u1 t1 h0 n0 v U'.heap L ∧ FrameEnd U o U' L (own_r 1 0 0 14).cells (own_r 1 0 0 14).slots) := by
  refine MetFree.of_bodySF (plainFor_of_name pn_9) hisR ?_
  intro p e s m args below meth c s₁ Bd hml0 hP hK
  obtain ⟨rfl, hZ, hh⟩ := hP
  have hx := Bd.exec
  have hby := Bd.bytes
  have hml : c.maxLocals = 3 := hml0
  have hown0 := findClass_of_methodNamed Bd.named
  have hown : s.vm.findClass "com/example/horne/horne/term/Indicator" = some m.cls := hown0
  have hnm := (name_of_methodNamed Bd.named Bd.method).1
  have X0 : Stand p l e (own_r 1 0 0 14) s m #[(.ref a1), (.ref a1)] below meth c s₁ [] 0 0 := Stand.of_body Bd
  have e0 : s₁.heap = h0 := by rw [← hh, Bd.state]; rfl
  have N0 := Fr.nil n0
  obtain ⟨S0, hS0⟩ : ∃ z, z = s₁.setTop (entryFrame m #[(.ref a1), (.ref a1)] 3) := ⟨_, rfl⟩
  have pre0 : own_Go p e below S0 (s₁.setTop (mkF m 0 #[.val (.ref a1), .val (.ref a1), .unset] [])) := fun t k => by rw [hS0]; exact castTop (ef_ieqS m a1 a1) k
  have fin : ∀ t, Steps p.tables e below S0 t → Steps p.tables e below (s₁.setTop (entryFrame m #[(.ref a1), (.ref a1)] 3)) t := fun t k => by rw [hS0] at k; exact k
  have pre1 : own_Go p e below S0 (s₁.setTop (mkF m 1 #[.val (.ref a1), .val (.ref a1), .unset] [(.ref a1)])) := by
    intro t kt
    refine pre0 t ?_
    refine XS.aloadN X0.here hx rfl (hb hby d9_0) rfl rfl ?_
    exact kt
  obtain ⟨T2, X2, e2, st2⟩ := instY X0 hx hZ hown (hw _ (own_w 65 rfl)) e0 (Ins.self A0) (g := (mkF m 1 #[.val (.ref a1), .val (.ref a1), .unset] [(.ref a1)])) rfl rfl (hb hby d9_1)
  have pre3 : own_Go p e below S0 (T2.setTop (mkF m 8 #[.val (.ref a1), .val (.ref a1), .unset] [(.ref a1)])) := by
    intro t kt
    refine pre1 t ?_
    refine st2 _ ?_
    refine XS.ifNo X2.here hx rfl (hb hby d9_4) rfl ((if0 _ _).trans (feq (by decide : ¬ ((1 : Int32) = (0 : Int32)))).1) ?_
    refine XS.aloadN X2.here hx rfl (hb hby d9_7) rfl rfl ?_
    exact kt
  obtain ⟨T4, X4, e4, st4⟩ := castY X2 hx hZ hown (hw _ (own_w 65 rfl)) e2 (Ins.self A0) (g := (mkF m 8 #[.val (.ref a1), .val (.ref a1), .unset] [(.ref a1)])) rfl rfl (hb hby d9_8)
  have pre5 : own_Go p e below S0 (T4.setTop (mkF m 13 #[.val (.ref a1), .val (.ref a1), .val (.ref a1)] [(.ref a1)])) := by
    intro t kt
    refine pre3 t ?_
    refine st4 _ ?_
    refine XS.astoreN X4.here hx rfl (hb hby d9_11) rfl rfl (l' := #[.val (.ref a1), .val (.ref a1), .val (.ref a1)]) rfl ?_
    refine XS.aloadN X4.here hx rfl (hb hby d9_12) rfl rfl ?_
    exact kt
  obtain ⟨T6, X6, e6, st6⟩ := getF X4 hx hZ hown (host := "") (Or.inl (hw _ (own_w 41 rfl))) Via.refl e4 A2 (g := (mkF m 13 #[.val (.ref a1), .val (.ref a1), .val (.ref a1)] [(.ref a1)])) rfl rfl (hb hby d9_13)
  have pre7 : own_Go p e below S0 (T6.setTop (mkF m 17 #[.val (.ref a1), .val (.ref a1), .val (.ref a1)] [(.ref a1), (.int u1)])) := by
    intro t kt
    refine pre5 t ?_
    refine st6 _ ?_
    refine XS.aloadN X6.here hx rfl (hb hby d9_16) rfl rfl ?_
    exact kt
  obtain ⟨T8, X8, e8, st8⟩ := getF X6 hx hZ hown (host := "") (Or.inl (hw _ (own_w 41 rfl))) Via.refl e6 A2 (g := (mkF m 17 #[.val (.ref a1), .val (.ref a1), .val (.ref a1)] [(.ref a1), (.int u1)])) rfl rfl (hb hby d9_17)
  have pre9 : own_Go p e below S0 (T8.setTop (mkF m 24 #[.val (.ref a1), .val (.ref a1), .val (.ref a1)] [(.ref a1)])) := by
    intro t kt
    refine pre7 t ?_
    refine st8 _ ?_
    refine XS.icmpNo X8.here hx rfl (hb hby d9_20) rfl (teq (rfl : u1 = u1)).2 ?_
    refine XS.aloadN X8.here hx rfl (hb hby d9_23) rfl rfl ?_
    exact kt
  obtain ⟨T10, X10, e10, st10⟩ := getF X8 hx hZ hown (host := "") (Or.inl (hw _ (own_w 39 rfl))) Via.refl e8 A1 (g := (mkF m 24 #[.val (.ref a1), .val (.ref a1), .val (.ref a1)] [(.ref a1)])) rfl rfl (hb hby d9_24)
  have pre11 : own_Go p e below S0 (T10.setTop (mkF m 28 #[.val (.ref a1), .val (.ref a1), .val (.ref a1)] [(.ref a1), (.ref t1)])) := by
    intro t kt
    refine pre9 t ?_
    refine st10 _ ?_
    refine XS.aloadN X10.here hx rfl (hb hby d9_27) rfl rfl ?_
    exact kt
  obtain ⟨T12, X12, e12, st12⟩ := getF X10 hx hZ hown (host := "") (Or.inl (hw _ (own_w 39 rfl))) Via.refl e10 A1 (g := (mkF m 28 #[.val (.ref a1), .val (.ref a1), .val (.ref a1)] [(.ref a1), (.ref t1)])) rfl rfl (hb hby d9_28)
  have pre13 : own_Go p e below S0 (T12.setTop (mkF m 31 #[.val (.ref a1), .val (.ref a1), .val (.ref a1)] [(.ref t1), (.ref t1)])) := by
    intro t kt
    refine pre11 t ?_
    refine st12 _ ?_
    exact kt
  obtain ⟨cq14, kq14, qa14, qb14, qc14⟩ := isOf hZ e12 pE2
  obtain ⟨_, _, ⟨T14, L14, k14, n14⟩, -, X14, ⟨Lc14, hQ14, l14, y14, z14⟩, st14⟩ := X12.virtualBack hx (y := own_m9) (z := own_m9) hown (mvT hZ (hw _ (own_w 84 rfl))) (mvT hZ (hw _ (own_w 85 rfl))) (notFace_of_selects (args := #[]) (mvT hZ (hw _ (own_w 87 rfl)))) (mvT hZ (hw _ (own_w 87 rfl))) (mvT hZ (hw _ (own_w 86 rfl))) (by decide) (backOf (W := 0) (rmses l Z a0 hw [] t1 h0 n0 Z0 ) hZ (hw _ (own_w 88 rfl)) (hw _ (own_w 7 rfl)) (by decide) (by decide)) qa14 qc14 (g := (mkF m 31 #[.val (.ref a1), .val (.ref a1), .val (.ref a1)] [(.ref t1), (.ref t1)])) rfl (by rw [hml]; rfl) (Steps.refl _) (argsL := [(.ref t1)]) (rest := []) (lenOf pd_9 rfl) rfl (by show 2 * 0 + _ ≤ _; exact Nat.le_of_eq rfl) (hb hby d9_31) (fun _ _ => ⟨rfl, e12, (by decide : 0 + 0 ≤ _), (by decide : 0 + 0 ≤ _)⟩)
  dsimp only [Pt.U, Pt.locs, Pt.cells, Pt.slots] at X14 l14 y14 z14 st14 hQ14
  subst l14 y14 z14
  obtain ⟨rfl, Nq14, eq14⟩ := hQ14
  have N14 := Fr.app N0 Nq14
  have pre15 : own_Go p e below S0 (T14.setTop (mkF m 42 #[.val (.ref a1), .val (.ref a1), .val (.ref a1)] [(.int 1)])) := by
    intro t kt
    refine pre13 t ?_
    refine st14.trans ?_
    show Steps p.tables e below (T14.setTop (mkF m 34 #[.val (.ref a1), .val (.ref a1), .val (.ref a1)] [(.int 1)])) _
    refine XS.ifNo X14.here hx rfl (hb hby d9_34) rfl ((if0 _ _).trans (feq (by decide : ¬ ((1 : Int32) = (0 : Int32)))).1) ?_
    refine XS.iconst X14.here hx rfl (hb hby d9_37) ?_
    refine XS.goto X14.here hx rfl (pc0 := 38) (pc' := 42) rfl (hb hby d9_38) (by decide) (by decide) ?_
    show Steps p.tables e below (T14.setTop (mkF m 42 #[.val (.ref a1), .val (.ref a1), .val (.ref a1)] [(.int 1)])) _
    exact kt
  obtain ⟨fs, hr, hrun, hended, hW, hsame⟩ := X14.leave (v := some (.int 1)) (fun h => by rw [Bd.returns] at h; cases h)
  refine ⟨_, _, fin _ (pre15 _ ?_), hrun, hended, _, _, rfl, ?_, ⟨_, rfl⟩, hW, hsame.mono (by decide) (by decide)⟩
  · exact retN X14 hx (t := .boolean) Bd.returns (by simp) (hb hby d9_42) hr
  · show QieqS Z a1 u1 t1 h0 n0 _ T14.heap _
    rw [eq14]
    exact ⟨rfl, N14, rfl⟩

theorem ef_ieqN (m : MethodId) (x0 : Addr) : entryFrame m #[(.ref x0), .null] 3 = mkF m 0 #[.val (.ref x0), .val .null, .unset] [] := by first | (simp [entryFrame, mkF, argsToLocals, Value.category]; done) | rfl
def QieqN (Z : State) (a1 : Addr) (h0 : Heap) (n0 : Nat) (v : Option Value) (h : Heap) (L : List Loc) : Prop := v = (some (.int 0)) ∧ Fr n0 L ∧ h = h0
set_option maxRecDepth 65536 in
set_option maxHeartbeats 40000000 in
theorem rmieqN (l : Launch) (Z : State) (a0 : Array Value) (hw : ∀ d ∈ tables_1, d.before a0 Z = true) (ws : List Jvm.Cond) (a1 : Addr) (h0 : Heap) (n0 : Nat) (Z0 : n0 ≤ h0.size) :
    MetFree l own_m2 (head1 (Jvm.Cond.code own_m2 prog_68_method_4_code 3 (some .boolean) :: ws) (own_r 0 0 0 0)) (fun a U => a = #[(.ref a1), .null] ∧ Z.Warmed39 U.vm ∧ U.heap = h0) (fun _ _ _ _ _ => True) (fun _ U o U' => ∃ v L, o = .returned v ∧ QieqN Z a1 h0 n0 v U'.heap L ∧ FrameEnd U o U' L (own_r 0 0 0 0).cells (own_r 0 0 0 0).slots) := by
  refine MetFree.of_bodySF (plainFor_of_name pn_9) hisR ?_
  intro p e s m args below meth c s₁ Bd hml0 hP hK
  obtain ⟨rfl, hZ, hh⟩ := hP
  have hx := Bd.exec
  have hby := Bd.bytes
  have hml : c.maxLocals = 3 := hml0
  have hown0 := findClass_of_methodNamed Bd.named
  have hown : s.vm.findClass "com/example/horne/horne/term/Indicator" = some m.cls := hown0
  have hnm := (name_of_methodNamed Bd.named Bd.method).1
  have X0 : Stand p l e (own_r 0 0 0 0) s m #[(.ref a1), .null] below meth c s₁ [] 0 0 := Stand.of_body Bd
  have e0 : s₁.heap = h0 := by rw [← hh, Bd.state]; rfl
  have N0 := Fr.nil n0
  obtain ⟨S0, hS0⟩ : ∃ z, z = s₁.setTop (entryFrame m #[(.ref a1), .null] 3) := ⟨_, rfl⟩
  have pre0 : own_Go p e below S0 (s₁.setTop (mkF m 0 #[.val (.ref a1), .val .null, .unset] [])) := fun t k => by rw [hS0]; exact castTop (ef_ieqN m a1) k
  have fin : ∀ t, Steps p.tables e below S0 t → Steps p.tables e below (s₁.setTop (entryFrame m #[(.ref a1), .null] 3)) t := fun t k => by rw [hS0] at k; exact k
  have pre1 : own_Go p e below S0 (s₁.setTop (mkF m 1 #[.val (.ref a1), .val .null, .unset] [.null])) := by
    intro t kt
    refine pre0 t ?_
    refine XS.aloadN X0.here hx rfl (hb hby d9_0) rfl rfl ?_
    exact kt
  have pre2 : own_Go p e below S0 (s₁.setTop (mkF m 42 #[.val (.ref a1), .val .null, .unset] [(.int 0)])) := by
    intro t kt
    refine pre1 t ?_
    refine X0.instanceofNull hx (g := (mkF m 1 #[.val (.ref a1), .val .null, .unset] [.null])) rfl rfl (hb hby d9_1) _ ?_
    refine XS.ifYes X0.here hx rfl (pc0 := 4) (pc' := 41) rfl (hb hby d9_4) rfl ((if0 _ _).trans (teq (by decide : (0 : Int32) = (0 : Int32))).1) (by decide) (by decide) ?_
    refine XS.iconst X0.here hx rfl (hb hby d9_41) ?_
    exact kt
  obtain ⟨fs, hr, hrun, hended, hW, hsame⟩ := X0.leave (v := some (.int 0)) (fun h => by rw [Bd.returns] at h; cases h)
  refine ⟨_, _, fin _ (pre2 _ ?_), hrun, hended, _, _, rfl, ?_, ⟨_, rfl⟩, hW, hsame.mono (by decide) (by decide)⟩
  · exact retN X0 hx (t := .boolean) Bd.returns (by simp) (hb hby d9_42) hr
  · show QieqN Z a1 h0 n0 _ s₁.heap _
    rw [e0]
    exact ⟨rfl, N0, rfl⟩

theorem ef_ieqA (m : MethodId) (x0 : Addr) (x1 : Addr) : entryFrame m #[(.ref x0), (.ref x1)] 3 = mkF m 0 #[.val (.ref x0), .val (.ref x1), .unset] [] := by first | (simp [entryFrame, mkF, argsToLocals, Value.category]; done) | rfl
def QieqA (Z : State) (a1 : Addr) (a2 : Addr) (h0 : Heap) (n0 : Nat) (v : Option Value) (h : Heap) (L : List Loc) : Prop := v = (some (.int 0)) ∧ Fr n0 L ∧ h = h0
set_option maxRecDepth 65536 in
set_option maxHeartbeats 40000000 in
theorem rmieqA (l : Launch) (Z : State) (a0 : Array Value) (hw : ∀ d ∈ tables_1, d.before a0 Z = true) (ws : List Jvm.Cond) (a1 : Addr) (a2 : Addr) (h0 : Heap) (n0 : Nat) (Z0 : n0 ≤ h0.size) (pE2 : Exa Z h0 a2 "com/example/horne/horne/term/Atom") :
    MetFree l own_m2 (head1 (Jvm.Cond.code own_m2 prog_68_method_4_code 3 (some .boolean) :: ws) (own_r 0 0 0 0)) (fun a U => a = #[(.ref a1), (.ref a2)] ∧ Z.Warmed39 U.vm ∧ U.heap = h0) (fun _ _ _ _ _ => True) (fun _ U o U' => ∃ v L, o = .returned v ∧ QieqA Z a1 a2 h0 n0 v U'.heap L ∧ FrameEnd U o U' L (own_r 0 0 0 0).cells (own_r 0 0 0 0).slots) := by
  refine MetFree.of_bodySF (plainFor_of_name pn_9) hisR ?_
  intro p e s m args below meth c s₁ Bd hml0 hP hK
  obtain ⟨rfl, hZ, hh⟩ := hP
  have hx := Bd.exec
  have hby := Bd.bytes
  have hml : c.maxLocals = 3 := hml0
  have hown0 := findClass_of_methodNamed Bd.named
  have hown : s.vm.findClass "com/example/horne/horne/term/Indicator" = some m.cls := hown0
  have hnm := (name_of_methodNamed Bd.named Bd.method).1
  have X0 : Stand p l e (own_r 0 0 0 0) s m #[(.ref a1), (.ref a2)] below meth c s₁ [] 0 0 := Stand.of_body Bd
  have e0 : s₁.heap = h0 := by rw [← hh, Bd.state]; rfl
  have N0 := Fr.nil n0
  obtain ⟨S0, hS0⟩ : ∃ z, z = s₁.setTop (entryFrame m #[(.ref a1), (.ref a2)] 3) := ⟨_, rfl⟩
  have pre0 : own_Go p e below S0 (s₁.setTop (mkF m 0 #[.val (.ref a1), .val (.ref a2), .unset] [])) := fun t k => by rw [hS0]; exact castTop (ef_ieqA m a1 a2) k
  have fin : ∀ t, Steps p.tables e below S0 t → Steps p.tables e below (s₁.setTop (entryFrame m #[(.ref a1), (.ref a2)] 3)) t := fun t k => by rw [hS0] at k; exact k
  have pre1 : own_Go p e below S0 (s₁.setTop (mkF m 1 #[.val (.ref a1), .val (.ref a2), .unset] [(.ref a2)])) := by
    intro t kt
    refine pre0 t ?_
    refine XS.aloadN X0.here hx rfl (hb hby d9_0) rfl rfl ?_
    exact kt
  obtain ⟨T2, X2, e2, st2⟩ := instNo X0 hx hZ hown (hw _ (own_w 65 rfl)) e0 pE2 (own_notinst Z a0 hw) (g := (mkF m 1 #[.val (.ref a1), .val (.ref a2), .unset] [(.ref a2)])) rfl rfl (hb hby d9_1)
  have pre3 : own_Go p e below S0 (T2.setTop (mkF m 42 #[.val (.ref a1), .val (.ref a2), .unset] [(.int 0)])) := by
    intro t kt
    refine pre1 t ?_
    refine st2 _ ?_
    refine XS.ifYes X2.here hx rfl (pc0 := 4) (pc' := 41) rfl (hb hby d9_4) rfl ((if0 _ _).trans (teq (by decide : (0 : Int32) = (0 : Int32))).1) (by decide) (by decide) ?_
    refine XS.iconst X2.here hx rfl (hb hby d9_41) ?_
    exact kt
  obtain ⟨fs, hr, hrun, hended, hW, hsame⟩ := X2.leave (v := some (.int 0)) (fun h => by rw [Bd.returns] at h; cases h)
  refine ⟨_, _, fin _ (pre3 _ ?_), hrun, hended, _, _, rfl, ?_, ⟨_, rfl⟩, hW, hsame.mono (by decide) (by decide)⟩
  · exact retN X2 hx (t := .boolean) Bd.returns (by simp) (hb hby d9_42) hr
  · show QieqA Z a1 a2 h0 n0 _ T2.heap _
    rw [e2]
    exact ⟨rfl, N0, rfl⟩

def own_sb (p i cx cy ok : Int32) : Int32 := if p < i then ok else if cx = cy then ok else 0
theorem own_sbA {p i cx cy ok : Int32} (h : p < i) : own_sb p i cx cy ok = ok := if_pos h
theorem own_sbB {p i cx cy ok : Int32} (h : ¬ p < i) (k : cx = cy) : own_sb p i cx cy ok = ok := (if_neg h).trans (if_pos k)
theorem own_sbC {p i cx cy ok : Int32} (h : ¬ p < i) (k : ¬ cx = cy) : own_sb p i cx cy ok = 0 := (if_neg h).trans (if_neg k)

theorem d15_0 : decode method_4_code 0 = .ok (.iconst 1, 1) := by decide +kernel
theorem d15_1 : decode method_4_code 1 = .ok (.istore_n 3, 1) := by decide +kernel
theorem d15_2 : decode method_4_code 2 = .ok (.iload_n 0, 1) := by decide +kernel
theorem d15_3 : decode method_4_code 3 = .ok (.iconst 1, 1) := by decide +kernel
theorem d15_4 : decode method_4_code 4 = .ok (.if_icmp .lt 18, 3) := by decide +kernel
theorem d15_7 : decode method_4_code 7 = .ok (.iload_n 1, 1) := by decide +kernel
theorem d15_8 : decode method_4_code 8 = .ok (.iconst 0, 1) := by decide +kernel
theorem d15_9 : decode method_4_code 9 = .ok (.invokestatic 7, 3) := by decide +kernel
theorem d15_12 : decode method_4_code 12 = .ok (.iload_n 2, 1) := by decide +kernel
theorem d15_13 : decode method_4_code 13 = .ok (.iconst 0, 1) := by decide +kernel
theorem d15_14 : decode method_4_code 14 = .ok (.invokestatic 7, 3) := by decide +kernel
theorem d15_17 : decode method_4_code 17 = .ok (.if_icmp .eq 5, 3) := by decide +kernel
theorem d15_20 : decode method_4_code 20 = .ok (.iconst 0, 1) := by decide +kernel
theorem d15_21 : decode method_4_code 21 = .ok (.istore_n 3, 1) := by decide +kernel
theorem d15_22 : decode method_4_code 22 = .ok (.iload_n 0, 1) := by decide +kernel
theorem d15_23 : decode method_4_code 23 = .ok (.iconst 2, 1) := by decide +kernel
theorem d15_24 : decode method_4_code 24 = .ok (.if_icmp .lt 18, 3) := by decide +kernel
theorem d15_27 : decode method_4_code 27 = .ok (.iload_n 1, 1) := by decide +kernel
theorem d15_28 : decode method_4_code 28 = .ok (.iconst 1, 1) := by decide +kernel
theorem d15_29 : decode method_4_code 29 = .ok (.invokestatic 7, 3) := by decide +kernel
theorem d15_32 : decode method_4_code 32 = .ok (.iload_n 2, 1) := by decide +kernel
theorem d15_33 : decode method_4_code 33 = .ok (.iconst 1, 1) := by decide +kernel
theorem d15_34 : decode method_4_code 34 = .ok (.invokestatic 7, 3) := by decide +kernel
theorem d15_37 : decode method_4_code 37 = .ok (.if_icmp .eq 5, 3) := by decide +kernel
theorem d15_40 : decode method_4_code 40 = .ok (.iconst 0, 1) := by decide +kernel
theorem d15_41 : decode method_4_code 41 = .ok (.istore_n 3, 1) := by decide +kernel
theorem d15_42 : decode method_4_code 42 = .ok (.iload_n 0, 1) := by decide +kernel
theorem d15_43 : decode method_4_code 43 = .ok (.iconst 3, 1) := by decide +kernel
theorem d15_44 : decode method_4_code 44 = .ok (.if_icmp .lt 18, 3) := by decide +kernel
theorem d15_47 : decode method_4_code 47 = .ok (.iload_n 1, 1) := by decide +kernel
theorem d15_48 : decode method_4_code 48 = .ok (.iconst 2, 1) := by decide +kernel
theorem d15_49 : decode method_4_code 49 = .ok (.invokestatic 7, 3) := by decide +kernel
theorem d15_52 : decode method_4_code 52 = .ok (.iload_n 2, 1) := by decide +kernel
theorem d15_53 : decode method_4_code 53 = .ok (.iconst 2, 1) := by decide +kernel
theorem d15_54 : decode method_4_code 54 = .ok (.invokestatic 7, 3) := by decide +kernel
theorem d15_57 : decode method_4_code 57 = .ok (.if_icmp .eq 5, 3) := by decide +kernel
theorem d15_60 : decode method_4_code 60 = .ok (.iconst 0, 1) := by decide +kernel
theorem d15_61 : decode method_4_code 61 = .ok (.istore_n 3, 1) := by decide +kernel
theorem d15_62 : decode method_4_code 62 = .ok (.iload_n 3, 1) := by decide +kernel
theorem d15_63 : decode method_4_code 63 = .ok (.ireturn, 1) := by decide +kernel
theorem pn_15 : plainName "com/example/horne/horne/term/IndicatorEqualsPinLaw" = true := by first | (simp [plainName, overriddenIn]; done) | decide +kernel
theorem ef_15 (m : MethodId) (x0 : Int32) (x1 : Int32) (x2 : Int32) : entryFrame m #[(.int x0), (.int x1), (.int x2)] 4 = mkF m 0 #[.val (.int x0), .val (.int x1), .val (.int x2), .unset] [] := by first | (simp [entryFrame, mkF, argsToLocals, Value.category]; done) | rfl
def own_sc (p1 : Int32) (p2 : Int32) (p3 : Int32) : Int32 := (nar .boolean (own_sb p1 (3 : Int32) (own_ch p2 (2 : Int32)) (own_ch p3 (2 : Int32)) (own_sb p1 (2 : Int32) (own_ch p2 (1 : Int32)) (own_ch p3 (1 : Int32)) (own_sb p1 (1 : Int32) (own_ch p2 (0 : Int32)) (own_ch p3 (0 : Int32)) (1 : Int32)))))
def Q15 (Z : State) (p1 : Int32) (p2 : Int32) (p3 : Int32) (h0 : Heap) (n0 : Nat) (v : Option Value) (h : Heap) (L : List Loc) : Prop := v = (some (.int (own_sc p1 p2 p3))) ∧ Fr n0 L ∧ h = h0
set_option maxRecDepth 65536 in
set_option maxHeartbeats 40000000 in
theorem rm15 (l : Launch) (Z : State) (a0 : Array Value) (hw : ∀ d ∈ tables_1, d.before a0 Z = true) (ws : List Jvm.Cond) (p1 : Int32) (p2 : Int32) (p3 : Int32) (h0 : Heap) (n0 : Nat) (Z0 : n0 ≤ h0.size) :
    MetFree l own_m4 (head1 (Jvm.Cond.code own_m4 method_4_code 4 (some .boolean) :: ws) (own_r 1 0 0 14)) (fun a U => a = #[(.int p1), (.int p2), (.int p3)] ∧ Z.Warmed39 U.vm ∧ U.heap = h0) (fun _ _ _ _ _ => True) (fun _ U o U' => ∃ v L, o = .returned v ∧ Q15 Z p1 p2 p3 h0 n0 v U'.heap L ∧ FrameEnd U o U' L (own_r 1 0 0 14).cells (own_r 1 0 0 14).slots) := by
  refine MetFree.of_bodySF (plainFor_of_name pn_15) hisR ?_
  intro p e s m args below meth c s₁ Bd hml0 hP hK
  obtain ⟨rfl, hZ, hh⟩ := hP
  have hx := Bd.exec
  have hby := Bd.bytes
  have hml : c.maxLocals = 4 := hml0
  have hown0 := findClass_of_methodNamed Bd.named
  have hown : s.vm.findClass "com/example/horne/horne/term/IndicatorEqualsPinLaw" = some m.cls := hown0
  have hnm := (name_of_methodNamed Bd.named Bd.method).1
  have X0 : Stand p l e (own_r 1 0 0 14) s m #[(.int p1), (.int p2), (.int p3)] below meth c s₁ [] 0 0 := Stand.of_body Bd
  have e0 : s₁.heap = h0 := by rw [← hh, Bd.state]; rfl
  have N0 := Fr.nil n0
  obtain ⟨S0, hS0⟩ : ∃ z, z = s₁.setTop (entryFrame m #[(.int p1), (.int p2), (.int p3)] 4) := ⟨_, rfl⟩
  have pre0 : own_Go p e below S0 (s₁.setTop (mkF m 0 #[.val (.int p1), .val (.int p2), .val (.int p3), .unset] [])) := fun t k => by rw [hS0]; exact castTop (ef_15 m p1 p2 p3) k
  have fin : ∀ t, Steps p.tables e below S0 t → Steps p.tables e below (s₁.setTop (entryFrame m #[(.int p1), (.int p2), (.int p3)] 4)) t := fun t k => by rw [hS0] at k; exact k
  have pre1 : own_Go p e below S0 (s₁.setTop (mkF m 2 #[.val (.int p1), .val (.int p2), .val (.int p3), .val (.int 1)] [])) := by
    intro t kt
    refine pre0 t ?_
    refine XS.iconst X0.here hx rfl (hb hby d15_0) ?_
    refine XS.istoreN X0.here hx rfl (hb hby d15_1) rfl (l' := #[.val (.int p1), .val (.int p2), .val (.int p3), .val (.int 1)]) rfl ?_
    exact kt
  obtain ⟨Tj2, lj2, Xj2, Nj2, ej2, prej2⟩ : ∃ (Tj2 : State) (lj2 : List Loc), Stand p l e (own_r 1 0 0 14) s m #[(.int p1), (.int p2), (.int p3)] below meth c Tj2 lj2 0 0 ∧ Fr n0 lj2 ∧ Tj2.heap = h0 ∧ own_Go p e below S0 (Tj2.setTop (mkF m 22 #[.val (.int p1), .val (.int p2), .val (.int p3), .val (.int (own_sb p1 (1 : Int32) (own_ch p2 (0 : Int32)) (own_ch p3 (0 : Int32)) (1 : Int32)))] [])) := by
    have pre4 : own_Go p e below S0 (s₁.setTop (mkF m 4 #[.val (.int p1), .val (.int p2), .val (.int p3), .val (.int 1)] [(.int 1), (.int p1)])) := by
      intro t kt
      refine pre1 t ?_
      refine XS.iloadN X0.here hx rfl (hb hby d15_2) rfl ?_
      refine XS.iconst X0.here hx rfl (hb hby d15_3) ?_
      exact kt
    by_cases hc3 : p1 < (1 : Int32)
    · have pre5 : own_Go p e below S0 (s₁.setTop (mkF m 22 #[.val (.int p1), .val (.int p2), .val (.int p3), .val (.int 1)] [])) := by
        intro t kt
        refine pre4 t ?_
        refine XS.icmpYes X0.here hx rfl (pc0 := 4) (pc' := 22) rfl (hb hby d15_4) rfl (tlt hc3).1 (by decide) (by decide) ?_
        exact kt
      have pre6 : own_Go p e below S0 (s₁.setTop (mkF m 22 #[.val (.int p1), .val (.int p2), .val (.int p3), .val (.int (own_sb p1 (1 : Int32) (own_ch p2 (0 : Int32)) (own_ch p3 (0 : Int32)) (1 : Int32)))] [])) := by
        intro t kt
        refine pre5 t ?_
        exact castTop (by rw [own_sbA (ok := (1 : Int32)) hc3]) kt
      exact ⟨s₁, _, (Stand.mono X0 (by decide) (by decide)), N0, e0, pre6⟩
    · have pre7 : own_Go p e below S0 (s₁.setTop (mkF m 9 #[.val (.int p1), .val (.int p2), .val (.int p3), .val (.int 1)] [(.int 0), (.int p2)])) := by
        intro t kt
        refine pre4 t ?_
        refine XS.icmpNo X0.here hx rfl (hb hby d15_4) rfl (flt hc3).1 ?_
        refine XS.iloadN X0.here hx rfl (hb hby d15_7) rfl ?_
        refine XS.iconst X0.here hx rfl (hb hby d15_8) ?_
        exact kt
      obtain ⟨_, _, ⟨T8, L8, k8, n8⟩, -, X8, ⟨Lc8, hQ8, l8, y8, z8⟩, st8⟩ := Jvm.LawKit.callS X0 hx (y := own_m3) hown (mvT hZ (hw _ (own_w 69 rfl))) (mvT hZ (hw _ (own_w 70 rfl))) (mvT hZ (hw _ (own_w 2 rfl))) (mvT hZ (hw _ (own_w 71 rfl))) (by decide) (backOf (W := 0) (rm10 l Z a0 hw [] p2 (0 : Int32) h0 n0 Z0 ) hZ (hw _ (own_w 71 rfl)) (hw _ (own_w 2 rfl)) (by decide) (by decide)) (g := (mkF m 9 #[.val (.int p1), .val (.int p2), .val (.int p3), .val (.int 1)] [(.int 0), (.int p2)])) rfl (by rw [hml]; rfl) (argsL := [(.int p2), (.int 0)]) (rest := []) (lenOf pd_5 rfl) rfl (by show 2 * 0 + _ ≤ _; exact Nat.le_of_eq rfl) (hb hby d15_9) (fun _ _ => ⟨rfl, e0, (by decide : 0 + 0 ≤ _), (by decide : 0 + 0 ≤ _)⟩)
      dsimp only [Pt.U, Pt.locs, Pt.cells, Pt.slots] at X8 l8 y8 z8 st8 hQ8
      subst l8 y8 z8
      obtain ⟨rfl, Nq8, eq8⟩ := hQ8
      have N8 := Fr.app N0 Nq8
      have pre9 : own_Go p e below S0 (T8.setTop (mkF m 14 #[.val (.int p1), .val (.int p2), .val (.int p3), .val (.int 1)] [(.int 0), (.int p3), (.int (own_ch p2 (0 : Int32)))])) := by
        intro t kt
        refine pre7 t ?_
        refine st8 _ ?_
        show Steps p.tables e below (T8.setTop (mkF m 12 #[.val (.int p1), .val (.int p2), .val (.int p3), .val (.int 1)] [(.int (own_ch p2 (0 : Int32)))])) _
        refine XS.iloadN X8.here hx rfl (hb hby d15_12) rfl ?_
        refine XS.iconst X8.here hx rfl (hb hby d15_13) ?_
        exact kt
      obtain ⟨_, _, ⟨T10, L10, k10, n10⟩, -, X10, ⟨Lc10, hQ10, l10, y10, z10⟩, st10⟩ := Jvm.LawKit.callS X8 hx (y := own_m3) hown (mvT hZ (hw _ (own_w 69 rfl))) (mvT hZ (hw _ (own_w 70 rfl))) (mvT hZ (hw _ (own_w 2 rfl))) (mvT hZ (hw _ (own_w 71 rfl))) (by decide) (backOf (W := 1) (rm10 l Z a0 hw [] p3 (0 : Int32) h0 n0 Z0 ) hZ (hw _ (own_w 71 rfl)) (hw _ (own_w 2 rfl)) (by decide) (by decide)) (g := (mkF m 14 #[.val (.int p1), .val (.int p2), .val (.int p3), .val (.int 1)] [(.int 0), (.int p3), (.int (own_ch p2 (0 : Int32)))])) rfl (by rw [hml]; rfl) (argsL := [(.int p3), (.int 0)]) (rest := [(.int (own_ch p2 (0 : Int32)))]) (lenOf pd_5 rfl) rfl (by show 2 * 0 + _ ≤ _; exact Nat.le_of_eq rfl) (hb hby d15_14) (fun _ _ => ⟨rfl, eq8, (by decide : 0 + 0 ≤ _), (by decide : 0 + 0 ≤ _)⟩)
      dsimp only [Pt.U, Pt.locs, Pt.cells, Pt.slots] at X10 l10 y10 z10 st10 hQ10
      subst l10 y10 z10
      obtain ⟨rfl, Nq10, eq10⟩ := hQ10
      have N10 := Fr.app N8 Nq10
      have pre12 : own_Go p e below S0 (T10.setTop (mkF m 17 #[.val (.int p1), .val (.int p2), .val (.int p3), .val (.int 1)] [(.int (own_ch p3 (0 : Int32))), (.int (own_ch p2 (0 : Int32)))])) := by
        intro t kt
        refine pre9 t ?_
        refine st10 _ ?_
        show Steps p.tables e below (T10.setTop (mkF m 17 #[.val (.int p1), .val (.int p2), .val (.int p3), .val (.int 1)] [(.int (own_ch p3 (0 : Int32))), (.int (own_ch p2 (0 : Int32)))])) _
        exact kt
      by_cases hc11 : (own_ch p2 (0 : Int32)) = (own_ch p3 (0 : Int32))
      · have pre13 : own_Go p e below S0 (T10.setTop (mkF m 22 #[.val (.int p1), .val (.int p2), .val (.int p3), .val (.int 1)] [])) := by
          intro t kt
          refine pre12 t ?_
          refine XS.icmpYes X10.here hx rfl (pc0 := 17) (pc' := 22) rfl (hb hby d15_17) rfl (teq hc11).1 (by decide) (by decide) ?_
          exact kt
        have pre14 : own_Go p e below S0 (T10.setTop (mkF m 22 #[.val (.int p1), .val (.int p2), .val (.int p3), .val (.int (own_sb p1 (1 : Int32) (own_ch p2 (0 : Int32)) (own_ch p3 (0 : Int32)) (1 : Int32)))] [])) := by
          intro t kt
          refine pre13 t ?_
          exact castTop (by rw [own_sbB (ok := (1 : Int32)) hc3 hc11]) kt
        exact ⟨T10, _, (Stand.mono X10 (by decide) (by decide)), N10, eq10, pre14⟩
      · have pre15 : own_Go p e below S0 (T10.setTop (mkF m 22 #[.val (.int p1), .val (.int p2), .val (.int p3), .val (.int 0)] [])) := by
          intro t kt
          refine pre12 t ?_
          refine XS.icmpNo X10.here hx rfl (hb hby d15_17) rfl (feq hc11).1 ?_
          refine XS.iconst X10.here hx rfl (hb hby d15_20) ?_
          refine XS.istoreN X10.here hx rfl (hb hby d15_21) rfl (l' := #[.val (.int p1), .val (.int p2), .val (.int p3), .val (.int 0)]) rfl ?_
          exact kt
        have pre16 : own_Go p e below S0 (T10.setTop (mkF m 22 #[.val (.int p1), .val (.int p2), .val (.int p3), .val (.int (own_sb p1 (1 : Int32) (own_ch p2 (0 : Int32)) (own_ch p3 (0 : Int32)) (1 : Int32)))] [])) := by
          intro t kt
          refine pre15 t ?_
          exact castTop (by rw [own_sbC (ok := (1 : Int32)) hc3 hc11]) kt
        exact ⟨T10, _, (Stand.mono X10 (by decide) (by decide)), N10, eq10, pre16⟩
  obtain ⟨Tj17, lj17, Xj17, Nj17, ej17, prej17⟩ : ∃ (Tj17 : State) (lj17 : List Loc), Stand p l e (own_r 1 0 0 14) s m #[(.int p1), (.int p2), (.int p3)] below meth c Tj17 lj17 0 0 ∧ Fr n0 lj17 ∧ Tj17.heap = h0 ∧ own_Go p e below S0 (Tj17.setTop (mkF m 42 #[.val (.int p1), .val (.int p2), .val (.int p3), .val (.int (own_sb p1 (2 : Int32) (own_ch p2 (1 : Int32)) (own_ch p3 (1 : Int32)) (own_sb p1 (1 : Int32) (own_ch p2 (0 : Int32)) (own_ch p3 (0 : Int32)) (1 : Int32))))] [])) := by
    have pre19 : own_Go p e below S0 (Tj2.setTop (mkF m 24 #[.val (.int p1), .val (.int p2), .val (.int p3), .val (.int (own_sb p1 (1 : Int32) (own_ch p2 (0 : Int32)) (own_ch p3 (0 : Int32)) (1 : Int32)))] [(.int 2), (.int p1)])) := by
      intro t kt
      refine prej2 t ?_
      refine XS.iloadN Xj2.here hx rfl (hb hby d15_22) rfl ?_
      refine XS.iconst Xj2.here hx rfl (hb hby d15_23) ?_
      exact kt
    by_cases hc18 : p1 < (2 : Int32)
    · have pre20 : own_Go p e below S0 (Tj2.setTop (mkF m 42 #[.val (.int p1), .val (.int p2), .val (.int p3), .val (.int (own_sb p1 (1 : Int32) (own_ch p2 (0 : Int32)) (own_ch p3 (0 : Int32)) (1 : Int32)))] [])) := by
        intro t kt
        refine pre19 t ?_
        refine XS.icmpYes Xj2.here hx rfl (pc0 := 24) (pc' := 42) rfl (hb hby d15_24) rfl (tlt hc18).1 (by decide) (by decide) ?_
        exact kt
      have pre21 : own_Go p e below S0 (Tj2.setTop (mkF m 42 #[.val (.int p1), .val (.int p2), .val (.int p3), .val (.int (own_sb p1 (2 : Int32) (own_ch p2 (1 : Int32)) (own_ch p3 (1 : Int32)) (own_sb p1 (1 : Int32) (own_ch p2 (0 : Int32)) (own_ch p3 (0 : Int32)) (1 : Int32))))] [])) := by
        intro t kt
        refine pre20 t ?_
        exact castTop (by rw [own_sbA (ok := (own_sb p1 (1 : Int32) (own_ch p2 (0 : Int32)) (own_ch p3 (0 : Int32)) (1 : Int32))) hc18]) kt
      exact ⟨Tj2, _, (Stand.mono Xj2 (by decide) (by decide)), Nj2, ej2, pre21⟩
    · have pre22 : own_Go p e below S0 (Tj2.setTop (mkF m 29 #[.val (.int p1), .val (.int p2), .val (.int p3), .val (.int (own_sb p1 (1 : Int32) (own_ch p2 (0 : Int32)) (own_ch p3 (0 : Int32)) (1 : Int32)))] [(.int 1), (.int p2)])) := by
        intro t kt
        refine pre19 t ?_
        refine XS.icmpNo Xj2.here hx rfl (hb hby d15_24) rfl (flt hc18).1 ?_
        refine XS.iloadN Xj2.here hx rfl (hb hby d15_27) rfl ?_
        refine XS.iconst Xj2.here hx rfl (hb hby d15_28) ?_
        exact kt
      obtain ⟨_, _, ⟨T23, L23, k23, n23⟩, -, X23, ⟨Lc23, hQ23, l23, y23, z23⟩, st23⟩ := Jvm.LawKit.callS Xj2 hx (y := own_m3) hown (mvT hZ (hw _ (own_w 69 rfl))) (mvT hZ (hw _ (own_w 70 rfl))) (mvT hZ (hw _ (own_w 2 rfl))) (mvT hZ (hw _ (own_w 71 rfl))) (by decide) (backOf (W := 0) (rm10 l Z a0 hw [] p2 (1 : Int32) h0 n0 Z0 ) hZ (hw _ (own_w 71 rfl)) (hw _ (own_w 2 rfl)) (by decide) (by decide)) (g := (mkF m 29 #[.val (.int p1), .val (.int p2), .val (.int p3), .val (.int (own_sb p1 (1 : Int32) (own_ch p2 (0 : Int32)) (own_ch p3 (0 : Int32)) (1 : Int32)))] [(.int 1), (.int p2)])) rfl (by rw [hml]; rfl) (argsL := [(.int p2), (.int 1)]) (rest := []) (lenOf pd_5 rfl) rfl (by show 2 * 0 + _ ≤ _; exact Nat.le_of_eq rfl) (hb hby d15_29) (fun _ _ => ⟨rfl, ej2, (by decide : 0 + 0 ≤ _), (by decide : 0 + 0 ≤ _)⟩)
      dsimp only [Pt.U, Pt.locs, Pt.cells, Pt.slots] at X23 l23 y23 z23 st23 hQ23
      subst l23 y23 z23
      obtain ⟨rfl, Nq23, eq23⟩ := hQ23
      have N23 := Fr.app Nj2 Nq23
      have pre24 : own_Go p e below S0 (T23.setTop (mkF m 34 #[.val (.int p1), .val (.int p2), .val (.int p3), .val (.int (own_sb p1 (1 : Int32) (own_ch p2 (0 : Int32)) (own_ch p3 (0 : Int32)) (1 : Int32)))] [(.int 1), (.int p3), (.int (own_ch p2 (1 : Int32)))])) := by
        intro t kt
        refine pre22 t ?_
        refine st23 _ ?_
        show Steps p.tables e below (T23.setTop (mkF m 32 #[.val (.int p1), .val (.int p2), .val (.int p3), .val (.int (own_sb p1 (1 : Int32) (own_ch p2 (0 : Int32)) (own_ch p3 (0 : Int32)) (1 : Int32)))] [(.int (own_ch p2 (1 : Int32)))])) _
        refine XS.iloadN X23.here hx rfl (hb hby d15_32) rfl ?_
        refine XS.iconst X23.here hx rfl (hb hby d15_33) ?_
        exact kt
      obtain ⟨_, _, ⟨T25, L25, k25, n25⟩, -, X25, ⟨Lc25, hQ25, l25, y25, z25⟩, st25⟩ := Jvm.LawKit.callS X23 hx (y := own_m3) hown (mvT hZ (hw _ (own_w 69 rfl))) (mvT hZ (hw _ (own_w 70 rfl))) (mvT hZ (hw _ (own_w 2 rfl))) (mvT hZ (hw _ (own_w 71 rfl))) (by decide) (backOf (W := 1) (rm10 l Z a0 hw [] p3 (1 : Int32) h0 n0 Z0 ) hZ (hw _ (own_w 71 rfl)) (hw _ (own_w 2 rfl)) (by decide) (by decide)) (g := (mkF m 34 #[.val (.int p1), .val (.int p2), .val (.int p3), .val (.int (own_sb p1 (1 : Int32) (own_ch p2 (0 : Int32)) (own_ch p3 (0 : Int32)) (1 : Int32)))] [(.int 1), (.int p3), (.int (own_ch p2 (1 : Int32)))])) rfl (by rw [hml]; rfl) (argsL := [(.int p3), (.int 1)]) (rest := [(.int (own_ch p2 (1 : Int32)))]) (lenOf pd_5 rfl) rfl (by show 2 * 0 + _ ≤ _; exact Nat.le_of_eq rfl) (hb hby d15_34) (fun _ _ => ⟨rfl, eq23, (by decide : 0 + 0 ≤ _), (by decide : 0 + 0 ≤ _)⟩)
      dsimp only [Pt.U, Pt.locs, Pt.cells, Pt.slots] at X25 l25 y25 z25 st25 hQ25
      subst l25 y25 z25
      obtain ⟨rfl, Nq25, eq25⟩ := hQ25
      have N25 := Fr.app N23 Nq25
      have pre27 : own_Go p e below S0 (T25.setTop (mkF m 37 #[.val (.int p1), .val (.int p2), .val (.int p3), .val (.int (own_sb p1 (1 : Int32) (own_ch p2 (0 : Int32)) (own_ch p3 (0 : Int32)) (1 : Int32)))] [(.int (own_ch p3 (1 : Int32))), (.int (own_ch p2 (1 : Int32)))])) := by
        intro t kt
        refine pre24 t ?_
        refine st25 _ ?_
        show Steps p.tables e below (T25.setTop (mkF m 37 #[.val (.int p1), .val (.int p2), .val (.int p3), .val (.int (own_sb p1 (1 : Int32) (own_ch p2 (0 : Int32)) (own_ch p3 (0 : Int32)) (1 : Int32)))] [(.int (own_ch p3 (1 : Int32))), (.int (own_ch p2 (1 : Int32)))])) _
        exact kt
      by_cases hc26 : (own_ch p2 (1 : Int32)) = (own_ch p3 (1 : Int32))
      · have pre28 : own_Go p e below S0 (T25.setTop (mkF m 42 #[.val (.int p1), .val (.int p2), .val (.int p3), .val (.int (own_sb p1 (1 : Int32) (own_ch p2 (0 : Int32)) (own_ch p3 (0 : Int32)) (1 : Int32)))] [])) := by
          intro t kt
          refine pre27 t ?_
          refine XS.icmpYes X25.here hx rfl (pc0 := 37) (pc' := 42) rfl (hb hby d15_37) rfl (teq hc26).1 (by decide) (by decide) ?_
          exact kt
        have pre29 : own_Go p e below S0 (T25.setTop (mkF m 42 #[.val (.int p1), .val (.int p2), .val (.int p3), .val (.int (own_sb p1 (2 : Int32) (own_ch p2 (1 : Int32)) (own_ch p3 (1 : Int32)) (own_sb p1 (1 : Int32) (own_ch p2 (0 : Int32)) (own_ch p3 (0 : Int32)) (1 : Int32))))] [])) := by
          intro t kt
          refine pre28 t ?_
          exact castTop (by rw [own_sbB (ok := (own_sb p1 (1 : Int32) (own_ch p2 (0 : Int32)) (own_ch p3 (0 : Int32)) (1 : Int32))) hc18 hc26]) kt
        exact ⟨T25, _, (Stand.mono X25 (by decide) (by decide)), N25, eq25, pre29⟩
      · have pre30 : own_Go p e below S0 (T25.setTop (mkF m 42 #[.val (.int p1), .val (.int p2), .val (.int p3), .val (.int 0)] [])) := by
          intro t kt
          refine pre27 t ?_
          refine XS.icmpNo X25.here hx rfl (hb hby d15_37) rfl (feq hc26).1 ?_
          refine XS.iconst X25.here hx rfl (hb hby d15_40) ?_
          refine XS.istoreN X25.here hx rfl (hb hby d15_41) rfl (l' := #[.val (.int p1), .val (.int p2), .val (.int p3), .val (.int 0)]) rfl ?_
          exact kt
        have pre31 : own_Go p e below S0 (T25.setTop (mkF m 42 #[.val (.int p1), .val (.int p2), .val (.int p3), .val (.int (own_sb p1 (2 : Int32) (own_ch p2 (1 : Int32)) (own_ch p3 (1 : Int32)) (own_sb p1 (1 : Int32) (own_ch p2 (0 : Int32)) (own_ch p3 (0 : Int32)) (1 : Int32))))] [])) := by
          intro t kt
          refine pre30 t ?_
          exact castTop (by rw [own_sbC (ok := (own_sb p1 (1 : Int32) (own_ch p2 (0 : Int32)) (own_ch p3 (0 : Int32)) (1 : Int32))) hc18 hc26]) kt
        exact ⟨T25, _, (Stand.mono X25 (by decide) (by decide)), N25, eq25, pre31⟩
  obtain ⟨Tj32, lj32, Xj32, Nj32, ej32, prej32⟩ : ∃ (Tj32 : State) (lj32 : List Loc), Stand p l e (own_r 1 0 0 14) s m #[(.int p1), (.int p2), (.int p3)] below meth c Tj32 lj32 0 0 ∧ Fr n0 lj32 ∧ Tj32.heap = h0 ∧ own_Go p e below S0 (Tj32.setTop (mkF m 62 #[.val (.int p1), .val (.int p2), .val (.int p3), .val (.int (own_sb p1 (3 : Int32) (own_ch p2 (2 : Int32)) (own_ch p3 (2 : Int32)) (own_sb p1 (2 : Int32) (own_ch p2 (1 : Int32)) (own_ch p3 (1 : Int32)) (own_sb p1 (1 : Int32) (own_ch p2 (0 : Int32)) (own_ch p3 (0 : Int32)) (1 : Int32)))))] [])) := by
    have pre34 : own_Go p e below S0 (Tj17.setTop (mkF m 44 #[.val (.int p1), .val (.int p2), .val (.int p3), .val (.int (own_sb p1 (2 : Int32) (own_ch p2 (1 : Int32)) (own_ch p3 (1 : Int32)) (own_sb p1 (1 : Int32) (own_ch p2 (0 : Int32)) (own_ch p3 (0 : Int32)) (1 : Int32))))] [(.int 3), (.int p1)])) := by
      intro t kt
      refine prej17 t ?_
      refine XS.iloadN Xj17.here hx rfl (hb hby d15_42) rfl ?_
      refine XS.iconst Xj17.here hx rfl (hb hby d15_43) ?_
      exact kt
    by_cases hc33 : p1 < (3 : Int32)
    · have pre35 : own_Go p e below S0 (Tj17.setTop (mkF m 62 #[.val (.int p1), .val (.int p2), .val (.int p3), .val (.int (own_sb p1 (2 : Int32) (own_ch p2 (1 : Int32)) (own_ch p3 (1 : Int32)) (own_sb p1 (1 : Int32) (own_ch p2 (0 : Int32)) (own_ch p3 (0 : Int32)) (1 : Int32))))] [])) := by
        intro t kt
        refine pre34 t ?_
        refine XS.icmpYes Xj17.here hx rfl (pc0 := 44) (pc' := 62) rfl (hb hby d15_44) rfl (tlt hc33).1 (by decide) (by decide) ?_
        exact kt
      have pre36 : own_Go p e below S0 (Tj17.setTop (mkF m 62 #[.val (.int p1), .val (.int p2), .val (.int p3), .val (.int (own_sb p1 (3 : Int32) (own_ch p2 (2 : Int32)) (own_ch p3 (2 : Int32)) (own_sb p1 (2 : Int32) (own_ch p2 (1 : Int32)) (own_ch p3 (1 : Int32)) (own_sb p1 (1 : Int32) (own_ch p2 (0 : Int32)) (own_ch p3 (0 : Int32)) (1 : Int32)))))] [])) := by
        intro t kt
        refine pre35 t ?_
        exact castTop (by rw [own_sbA (ok := (own_sb p1 (2 : Int32) (own_ch p2 (1 : Int32)) (own_ch p3 (1 : Int32)) (own_sb p1 (1 : Int32) (own_ch p2 (0 : Int32)) (own_ch p3 (0 : Int32)) (1 : Int32)))) hc33]) kt
      exact ⟨Tj17, _, (Stand.mono Xj17 (by decide) (by decide)), Nj17, ej17, pre36⟩
    · have pre37 : own_Go p e below S0 (Tj17.setTop (mkF m 49 #[.val (.int p1), .val (.int p2), .val (.int p3), .val (.int (own_sb p1 (2 : Int32) (own_ch p2 (1 : Int32)) (own_ch p3 (1 : Int32)) (own_sb p1 (1 : Int32) (own_ch p2 (0 : Int32)) (own_ch p3 (0 : Int32)) (1 : Int32))))] [(.int 2), (.int p2)])) := by
        intro t kt
        refine pre34 t ?_
        refine XS.icmpNo Xj17.here hx rfl (hb hby d15_44) rfl (flt hc33).1 ?_
        refine XS.iloadN Xj17.here hx rfl (hb hby d15_47) rfl ?_
        refine XS.iconst Xj17.here hx rfl (hb hby d15_48) ?_
        exact kt
      obtain ⟨_, _, ⟨T38, L38, k38, n38⟩, -, X38, ⟨Lc38, hQ38, l38, y38, z38⟩, st38⟩ := Jvm.LawKit.callS Xj17 hx (y := own_m3) hown (mvT hZ (hw _ (own_w 69 rfl))) (mvT hZ (hw _ (own_w 70 rfl))) (mvT hZ (hw _ (own_w 2 rfl))) (mvT hZ (hw _ (own_w 71 rfl))) (by decide) (backOf (W := 0) (rm10 l Z a0 hw [] p2 (2 : Int32) h0 n0 Z0 ) hZ (hw _ (own_w 71 rfl)) (hw _ (own_w 2 rfl)) (by decide) (by decide)) (g := (mkF m 49 #[.val (.int p1), .val (.int p2), .val (.int p3), .val (.int (own_sb p1 (2 : Int32) (own_ch p2 (1 : Int32)) (own_ch p3 (1 : Int32)) (own_sb p1 (1 : Int32) (own_ch p2 (0 : Int32)) (own_ch p3 (0 : Int32)) (1 : Int32))))] [(.int 2), (.int p2)])) rfl (by rw [hml]; rfl) (argsL := [(.int p2), (.int 2)]) (rest := []) (lenOf pd_5 rfl) rfl (by show 2 * 0 + _ ≤ _; exact Nat.le_of_eq rfl) (hb hby d15_49) (fun _ _ => ⟨rfl, ej17, (by decide : 0 + 0 ≤ _), (by decide : 0 + 0 ≤ _)⟩)
      dsimp only [Pt.U, Pt.locs, Pt.cells, Pt.slots] at X38 l38 y38 z38 st38 hQ38
      subst l38 y38 z38
      obtain ⟨rfl, Nq38, eq38⟩ := hQ38
      have N38 := Fr.app Nj17 Nq38
      have pre39 : own_Go p e below S0 (T38.setTop (mkF m 54 #[.val (.int p1), .val (.int p2), .val (.int p3), .val (.int (own_sb p1 (2 : Int32) (own_ch p2 (1 : Int32)) (own_ch p3 (1 : Int32)) (own_sb p1 (1 : Int32) (own_ch p2 (0 : Int32)) (own_ch p3 (0 : Int32)) (1 : Int32))))] [(.int 2), (.int p3), (.int (own_ch p2 (2 : Int32)))])) := by
        intro t kt
        refine pre37 t ?_
        refine st38 _ ?_
        show Steps p.tables e below (T38.setTop (mkF m 52 #[.val (.int p1), .val (.int p2), .val (.int p3), .val (.int (own_sb p1 (2 : Int32) (own_ch p2 (1 : Int32)) (own_ch p3 (1 : Int32)) (own_sb p1 (1 : Int32) (own_ch p2 (0 : Int32)) (own_ch p3 (0 : Int32)) (1 : Int32))))] [(.int (own_ch p2 (2 : Int32)))])) _
        refine XS.iloadN X38.here hx rfl (hb hby d15_52) rfl ?_
        refine XS.iconst X38.here hx rfl (hb hby d15_53) ?_
        exact kt
      obtain ⟨_, _, ⟨T40, L40, k40, n40⟩, -, X40, ⟨Lc40, hQ40, l40, y40, z40⟩, st40⟩ := Jvm.LawKit.callS X38 hx (y := own_m3) hown (mvT hZ (hw _ (own_w 69 rfl))) (mvT hZ (hw _ (own_w 70 rfl))) (mvT hZ (hw _ (own_w 2 rfl))) (mvT hZ (hw _ (own_w 71 rfl))) (by decide) (backOf (W := 1) (rm10 l Z a0 hw [] p3 (2 : Int32) h0 n0 Z0 ) hZ (hw _ (own_w 71 rfl)) (hw _ (own_w 2 rfl)) (by decide) (by decide)) (g := (mkF m 54 #[.val (.int p1), .val (.int p2), .val (.int p3), .val (.int (own_sb p1 (2 : Int32) (own_ch p2 (1 : Int32)) (own_ch p3 (1 : Int32)) (own_sb p1 (1 : Int32) (own_ch p2 (0 : Int32)) (own_ch p3 (0 : Int32)) (1 : Int32))))] [(.int 2), (.int p3), (.int (own_ch p2 (2 : Int32)))])) rfl (by rw [hml]; rfl) (argsL := [(.int p3), (.int 2)]) (rest := [(.int (own_ch p2 (2 : Int32)))]) (lenOf pd_5 rfl) rfl (by show 2 * 0 + _ ≤ _; exact Nat.le_of_eq rfl) (hb hby d15_54) (fun _ _ => ⟨rfl, eq38, (by decide : 0 + 0 ≤ _), (by decide : 0 + 0 ≤ _)⟩)
      dsimp only [Pt.U, Pt.locs, Pt.cells, Pt.slots] at X40 l40 y40 z40 st40 hQ40
      subst l40 y40 z40
      obtain ⟨rfl, Nq40, eq40⟩ := hQ40
      have N40 := Fr.app N38 Nq40
      have pre42 : own_Go p e below S0 (T40.setTop (mkF m 57 #[.val (.int p1), .val (.int p2), .val (.int p3), .val (.int (own_sb p1 (2 : Int32) (own_ch p2 (1 : Int32)) (own_ch p3 (1 : Int32)) (own_sb p1 (1 : Int32) (own_ch p2 (0 : Int32)) (own_ch p3 (0 : Int32)) (1 : Int32))))] [(.int (own_ch p3 (2 : Int32))), (.int (own_ch p2 (2 : Int32)))])) := by
        intro t kt
        refine pre39 t ?_
        refine st40 _ ?_
        show Steps p.tables e below (T40.setTop (mkF m 57 #[.val (.int p1), .val (.int p2), .val (.int p3), .val (.int (own_sb p1 (2 : Int32) (own_ch p2 (1 : Int32)) (own_ch p3 (1 : Int32)) (own_sb p1 (1 : Int32) (own_ch p2 (0 : Int32)) (own_ch p3 (0 : Int32)) (1 : Int32))))] [(.int (own_ch p3 (2 : Int32))), (.int (own_ch p2 (2 : Int32)))])) _
        exact kt
      by_cases hc41 : (own_ch p2 (2 : Int32)) = (own_ch p3 (2 : Int32))
      · have pre43 : own_Go p e below S0 (T40.setTop (mkF m 62 #[.val (.int p1), .val (.int p2), .val (.int p3), .val (.int (own_sb p1 (2 : Int32) (own_ch p2 (1 : Int32)) (own_ch p3 (1 : Int32)) (own_sb p1 (1 : Int32) (own_ch p2 (0 : Int32)) (own_ch p3 (0 : Int32)) (1 : Int32))))] [])) := by
          intro t kt
          refine pre42 t ?_
          refine XS.icmpYes X40.here hx rfl (pc0 := 57) (pc' := 62) rfl (hb hby d15_57) rfl (teq hc41).1 (by decide) (by decide) ?_
          exact kt
        have pre44 : own_Go p e below S0 (T40.setTop (mkF m 62 #[.val (.int p1), .val (.int p2), .val (.int p3), .val (.int (own_sb p1 (3 : Int32) (own_ch p2 (2 : Int32)) (own_ch p3 (2 : Int32)) (own_sb p1 (2 : Int32) (own_ch p2 (1 : Int32)) (own_ch p3 (1 : Int32)) (own_sb p1 (1 : Int32) (own_ch p2 (0 : Int32)) (own_ch p3 (0 : Int32)) (1 : Int32)))))] [])) := by
          intro t kt
          refine pre43 t ?_
          exact castTop (by rw [own_sbB (ok := (own_sb p1 (2 : Int32) (own_ch p2 (1 : Int32)) (own_ch p3 (1 : Int32)) (own_sb p1 (1 : Int32) (own_ch p2 (0 : Int32)) (own_ch p3 (0 : Int32)) (1 : Int32)))) hc33 hc41]) kt
        exact ⟨T40, _, (Stand.mono X40 (by decide) (by decide)), N40, eq40, pre44⟩
      · have pre45 : own_Go p e below S0 (T40.setTop (mkF m 62 #[.val (.int p1), .val (.int p2), .val (.int p3), .val (.int 0)] [])) := by
          intro t kt
          refine pre42 t ?_
          refine XS.icmpNo X40.here hx rfl (hb hby d15_57) rfl (feq hc41).1 ?_
          refine XS.iconst X40.here hx rfl (hb hby d15_60) ?_
          refine XS.istoreN X40.here hx rfl (hb hby d15_61) rfl (l' := #[.val (.int p1), .val (.int p2), .val (.int p3), .val (.int 0)]) rfl ?_
          exact kt
        have pre46 : own_Go p e below S0 (T40.setTop (mkF m 62 #[.val (.int p1), .val (.int p2), .val (.int p3), .val (.int (own_sb p1 (3 : Int32) (own_ch p2 (2 : Int32)) (own_ch p3 (2 : Int32)) (own_sb p1 (2 : Int32) (own_ch p2 (1 : Int32)) (own_ch p3 (1 : Int32)) (own_sb p1 (1 : Int32) (own_ch p2 (0 : Int32)) (own_ch p3 (0 : Int32)) (1 : Int32)))))] [])) := by
          intro t kt
          refine pre45 t ?_
          exact castTop (by rw [own_sbC (ok := (own_sb p1 (2 : Int32) (own_ch p2 (1 : Int32)) (own_ch p3 (1 : Int32)) (own_sb p1 (1 : Int32) (own_ch p2 (0 : Int32)) (own_ch p3 (0 : Int32)) (1 : Int32)))) hc33 hc41]) kt
        exact ⟨T40, _, (Stand.mono X40 (by decide) (by decide)), N40, eq40, pre46⟩
  have pre47 : own_Go p e below S0 (Tj32.setTop (mkF m 63 #[.val (.int p1), .val (.int p2), .val (.int p3), .val (.int (own_sb p1 (3 : Int32) (own_ch p2 (2 : Int32)) (own_ch p3 (2 : Int32)) (own_sb p1 (2 : Int32) (own_ch p2 (1 : Int32)) (own_ch p3 (1 : Int32)) (own_sb p1 (1 : Int32) (own_ch p2 (0 : Int32)) (own_ch p3 (0 : Int32)) (1 : Int32)))))] [(.int (own_sb p1 (3 : Int32) (own_ch p2 (2 : Int32)) (own_ch p3 (2 : Int32)) (own_sb p1 (2 : Int32) (own_ch p2 (1 : Int32)) (own_ch p3 (1 : Int32)) (own_sb p1 (1 : Int32) (own_ch p2 (0 : Int32)) (own_ch p3 (0 : Int32)) (1 : Int32)))))])) := by
    intro t kt
    refine prej32 t ?_
    refine XS.iloadN Xj32.here hx rfl (hb hby d15_62) rfl ?_
    exact kt
  obtain ⟨fs, hr, hrun, hended, hW, hsame⟩ := Xj32.leave (v := some (.int (nar .boolean (own_sb p1 (3 : Int32) (own_ch p2 (2 : Int32)) (own_ch p3 (2 : Int32)) (own_sb p1 (2 : Int32) (own_ch p2 (1 : Int32)) (own_ch p3 (1 : Int32)) (own_sb p1 (1 : Int32) (own_ch p2 (0 : Int32)) (own_ch p3 (0 : Int32)) (1 : Int32))))))) (fun h => by rw [Bd.returns] at h; cases h)
  refine ⟨_, _, fin _ (pre47 _ ?_), hrun, hended, _, _, rfl, ?_, ⟨_, rfl⟩, hW, hsame.mono (by decide) (by decide)⟩
  · exact retN Xj32 hx (t := .boolean) Bd.returns (by simp) (hb hby d15_63) hr
  · show Q15 Z p1 p2 p3 h0 n0 _ Tj32.heap _
    rw [ej32]
    exact ⟨(by show some _ = some _; rw [own_sc]), Nj32, rfl⟩

def own_ex (u1 u2 n m b d : Int32) : Int32 := if u1 = u2 then (if n = m then (if own_sc n b d = (0 : Int32) then 0 else 1) else 0) else 0
theorem own_law (u1 u2 n m b d : Int32) (hn : n = 0 ∨ n = 1 ∨ n = 2 ∨ n = 3) (hm : m = 0 ∨ m = 1 ∨ m = 2 ∨ m = 3) : own_ieq u1 u2 (own_csOf n b) (own_csOf m d) = own_ex u1 u2 n m b d := by
  unfold own_ieq own_ex
  by_cases hu : u1 = u2
  · rw [if_pos hu, if_pos hu]
    by_cases h0 : own_ch b 0 = own_ch d 0 <;> by_cases h1 : own_ch b 1 = own_ch d 1 <;> by_cases h2 : own_ch b 2 = own_ch d 2 <;> rcases hn with rfl | rfl | rfl | rfl <;> rcases hm with rfl | rfl | rfl | rfl <;> simp only [own_cs0, own_cs1, own_cs2, own_cs3, own_seq, own_beq, own_nbI, own_sc, own_sb, h0, h1, h2, if_true, if_false] <;> decide
  · rw [if_neg hu, if_neg hu]

theorem pn_0 : plainName "com/example/horne/horne/term/IndicatorEqualsPinLaw" = true := by first | (simp [plainName, overriddenIn]; done) | decide +kernel
theorem pd_10 : parseMethodDescriptor "(II)Ljava/lang/String;" = some ⟨[.int, .int], some (.object "java/lang/String")⟩ := by decide +kernel
theorem pd_11 : parseMethodDescriptor "(Ljava/lang/String;I)V" = some ⟨[(.object "java/lang/String"), .int], none⟩ := by decide +kernel
theorem pd_12 : parseMethodDescriptor "(III)Z" = some ⟨[.int, .int, .int], some .boolean⟩ := by decide +kernel
theorem pd_13 : parseMethodDescriptor "(Ljava/lang/String;)V" = some ⟨[(.object "java/lang/String")], none⟩ := by decide +kernel
theorem ef_0 (m : MethodId) (x0 : Int32) (x1 : Int32) (x2 : Int32) (x3 : Int32) (x4 : Int32) (x5 : Int32) : entryFrame m #[(.int x0), (.int x1), (.int x2), (.int x3), (.int x4), (.int x5)] maxLocals = mkF m 0 #[.val (.int x0), .val (.int x1), .val (.int x2), .val (.int x3), .val (.int x4), .val (.int x5), .unset, .unset, .unset, .unset, .unset, .unset, .unset, .unset, .unset, .unset] [] := by first | (simp [entryFrame, mkF, argsToLocals, Value.category, maxLocals]; done) | rfl
def Q0 (Z : State) (p1 : Int32) (p2 : Int32) (p3 : Int32) (p4 : Int32) (p5 : Int32) (p6 : Int32) (wC : Int32) (h0 : Heap) (n0 : Nat) (v : Option Value) (h : Heap) (L : List Loc) : Prop := v = (some (.int 1)) ∧ Fr n0 L
set_option maxRecDepth 65536 in
set_option maxHeartbeats 40000000 in
theorem rm0 (l : Launch) (Z : State) (a0 : Array Value) (hw : ∀ d ∈ tables_1, d.before a0 Z = true) (ws : List Jvm.Cond) (p1 : Int32) (p2 : Int32) (p3 : Int32) (p4 : Int32) (p5 : Int32) (p6 : Int32) (wC : Int32) (h0 : Heap) (n0 : Nat) (Z0 : n0 ≤ h0.size) (O0 : Old Z n0 h0) (qC : (own_SC Z wC)) :
    MetFree l x (head1 (Jvm.Cond.code x code maxLocals ret :: ws) room_1) (fun a U => a = #[(.int p1), (.int p2), (.int p3), (.int p4), (.int p5), (.int p6)] ∧ Z.Warmed39 U.vm ∧ U.heap = h0 ∧ CHv Z own_EL U.vm h0 ∧ ∀ x ∈ ([] : List Addr), Safe Z own_EL U.vm h0 x) (fun _ _ _ _ _ => True) (fun _ U o U' => ∃ v L, o = .returned v ∧ Q0 Z p1 p2 p3 p4 p5 p6 wC h0 n0 v U'.heap L ∧ ReturnedEndW U o U' L 14 64) := by
  refine MetFree.of_bodySF (plainFor_of_name pn_0) hisR ?_
  intro p e s m args below meth c s₁ Bd hml0 hP hK
  obtain ⟨rfl, hZ, hh, hCH, hSF⟩ := hP
  have hx := Bd.exec
  have hby := Bd.bytes
  have hml : c.maxLocals = 16 := hml0
  have hown0 := findClass_of_methodNamed Bd.named
  have hown : s.vm.findClass "com/example/horne/horne/term/IndicatorEqualsPinLaw" = some m.cls := hown0
  have hnm := (name_of_methodNamed Bd.named Bd.method).1
  have X0 : Stand p l e room_1 s m #[(.int p1), (.int p2), (.int p3), (.int p4), (.int p5), (.int p6)] below meth c s₁ [] 0 0 := Stand.of_body Bd
  have e0 : s₁.heap = h0 := by rw [← hh, Bd.state]; rfl
  have N0 := Fr.nil n0
  obtain ⟨S0, hS0⟩ : ∃ z, z = s₁.setTop (entryFrame m #[(.int p1), (.int p2), (.int p3), (.int p4), (.int p5), (.int p6)] maxLocals) := ⟨_, rfl⟩
  have pre0 : own_Go p e below S0 (s₁.setTop (mkF m 0 #[.val (.int p1), .val (.int p2), .val (.int p3), .val (.int p4), .val (.int p5), .val (.int p6), .unset, .unset, .unset, .unset, .unset, .unset, .unset, .unset, .unset, .unset] [])) := fun t k => by rw [hS0]; exact castTop (ef_0 m p1 p2 p3 p4 p5 p6) k
  have fin : ∀ t, Steps p.tables e below S0 t → Steps p.tables e below (s₁.setTop (entryFrame m #[(.int p1), (.int p2), (.int p3), (.int p4), (.int p5), (.int p6)] maxLocals)) t := fun t k => by rw [hS0] at k; exact k
  have ch0 : CHr Z own_EL s.vm h0 s.vm h0 := CHr.refl hCH
  have pre1 : own_Go p e below S0 (s₁.setTop (mkF m 12 #[.val (.int p1), .val (.int p2), .val (.int p3), .val (.int p4), .val (.int p5), .val (.int p6), .val (.int (p1 &&& (3 : Int32))), .val (.int (((p1.toUInt32 >>> ((2 : Int32) &&& 31).toUInt32).toInt32) &&& (3 : Int32))), .unset, .unset, .unset, .unset, .unset, .unset, .unset, .unset] [])) := by
    intro t kt
    refine pre0 t ?_
    refine XS.iloadN X0.here hx rfl (hb hby at_0) rfl ?_
    refine XS.iconst X0.here hx rfl (hb hby at_1) ?_
    refine XS.iand X0.here hx rfl (hb hby at_2) rfl ?_
    refine XS.istore X0.here hx rfl (hb hby at_3) rfl (l' := #[.val (.int p1), .val (.int p2), .val (.int p3), .val (.int p4), .val (.int p5), .val (.int p6), .val (.int (p1 &&& (3 : Int32))), .unset, .unset, .unset, .unset, .unset, .unset, .unset, .unset, .unset]) rfl ?_
    show Steps p.tables e below (s₁.setTop (mkF m 5 #[.val (.int p1), .val (.int p2), .val (.int p3), .val (.int p4), .val (.int p5), .val (.int p6), .val (.int (p1 &&& (3 : Int32))), .unset, .unset, .unset, .unset, .unset, .unset, .unset, .unset, .unset] [])) _
    refine XS.iloadN X0.here hx rfl (hb hby at_5) rfl ?_
    refine XS.iconst X0.here hx rfl (hb hby at_6) ?_
    refine XS.iushr X0.here hx rfl (hb hby at_7) rfl ?_
    refine XS.iconst X0.here hx rfl (hb hby at_8) ?_
    show Steps p.tables e below (s₁.setTop (mkF m 9 #[.val (.int p1), .val (.int p2), .val (.int p3), .val (.int p4), .val (.int p5), .val (.int p6), .val (.int (p1 &&& (3 : Int32))), .unset, .unset, .unset, .unset, .unset, .unset, .unset, .unset, .unset] [(.int 3), (.int ((p1.toUInt32 >>> ((2 : Int32) &&& 31).toUInt32).toInt32))])) _
    refine XS.iand X0.here hx rfl (hb hby at_9) rfl ?_
    refine XS.istore X0.here hx rfl (hb hby at_10) rfl (l' := #[.val (.int p1), .val (.int p2), .val (.int p3), .val (.int p4), .val (.int p5), .val (.int p6), .val (.int (p1 &&& (3 : Int32))), .val (.int (((p1.toUInt32 >>> ((2 : Int32) &&& 31).toUInt32).toInt32) &&& (3 : Int32))), .unset, .unset, .unset, .unset, .unset, .unset, .unset, .unset]) rfl ?_
    exact kt
  obtain ⟨z2, z4, z6, z7, z8, z9, Tj2, lj2, Xj2, Nj2, ej2, pj13, pj14, prej2⟩ : ∃ (z2 : Int32) (z4 : Int32) (z6 : Int32) (z7 : Int32) (z8 : Int32) (z9 : Int32) (Tj2 : State) (lj2 : List Loc), Stand p l e room_1 s m #[(.int p1), (.int p2), (.int p3), (.int p4), (.int p5), (.int p6)] below meth c Tj2 lj2 0 0 ∧ Fr n0 lj2 ∧ Tj2.heap = h0 ∧ (z6 = 0 ∨ z6 = 1 ∨ z6 = 2 ∨ z6 = 3) ∧ (z7 = 0 ∨ z7 = 1 ∨ z7 = 2 ∨ z7 = 3) ∧ own_Go p e below S0 (Tj2.setTop (mkF m 59 #[.val (.int p1), .val (.int p2), .val (.int z2), .val (.int p4), .val (.int z4), .val (.int p6), .val (.int z6), .val (.int z7), .val (.int z8), .val (.int z9), .unset, .unset, .unset, .unset, .unset, .unset] [])) := by
    have pre4 : own_Go p e below S0 (s₁.setTop (mkF m 16 #[.val (.int p1), .val (.int p2), .val (.int p3), .val (.int p4), .val (.int p5), .val (.int p6), .val (.int (p1 &&& (3 : Int32))), .val (.int (((p1.toUInt32 >>> ((2 : Int32) &&& 31).toUInt32).toInt32) &&& (3 : Int32))), .unset, .unset, .unset, .unset, .unset, .unset, .unset, .unset] [(.int (p1 &&& (16 : Int32)))])) := by
      intro t kt
      refine pre1 t ?_
      refine XS.iloadN X0.here hx rfl (hb hby at_12) rfl ?_
      refine XS.bipush X0.here hx rfl (hb hby at_13) ?_
      refine XS.iand X0.here hx rfl (hb hby at_15) rfl ?_
      exact kt
    by_cases hc3 : (p1 &&& (16 : Int32)) = (0 : Int32)
    · have pre6 : own_Go p e below S0 (s₁.setTop (mkF m 30 #[.val (.int p1), .val (.int p2), .val (.int p3), .val (.int p4), .val (.int p5), .val (.int p6), .val (.int (p1 &&& (3 : Int32))), .val (.int (((p1.toUInt32 >>> ((2 : Int32) &&& 31).toUInt32).toInt32) &&& (3 : Int32))), .val (.int 0), .unset, .unset, .unset, .unset, .unset, .unset, .unset] [(.int (p1 &&& (32 : Int32)))])) := by
        intro t kt
        refine pre4 t ?_
        refine XS.ifYes X0.here hx rfl (pc0 := 16) (pc' := 23) rfl (hb hby at_16) rfl ((if0 _ _).trans (teq hc3).1) (by decide) (by decide) ?_
        refine XS.iconst X0.here hx rfl (hb hby at_23) ?_
        refine XS.istore X0.here hx rfl (hb hby at_24) rfl (l' := #[.val (.int p1), .val (.int p2), .val (.int p3), .val (.int p4), .val (.int p5), .val (.int p6), .val (.int (p1 &&& (3 : Int32))), .val (.int (((p1.toUInt32 >>> ((2 : Int32) &&& 31).toUInt32).toInt32) &&& (3 : Int32))), .val (.int 0), .unset, .unset, .unset, .unset, .unset, .unset, .unset]) rfl ?_
        refine XS.iloadN X0.here hx rfl (hb hby at_26) rfl ?_
        show Steps p.tables e below (s₁.setTop (mkF m 27 #[.val (.int p1), .val (.int p2), .val (.int p3), .val (.int p4), .val (.int p5), .val (.int p6), .val (.int (p1 &&& (3 : Int32))), .val (.int (((p1.toUInt32 >>> ((2 : Int32) &&& 31).toUInt32).toInt32) &&& (3 : Int32))), .val (.int 0), .unset, .unset, .unset, .unset, .unset, .unset, .unset] [(.int p1)])) _
        refine XS.bipush X0.here hx rfl (hb hby at_27) ?_
        refine XS.iand X0.here hx rfl (hb hby at_29) rfl ?_
        exact kt
      by_cases hc5 : (p1 &&& (32 : Int32)) = (0 : Int32)
      · have pre7 : own_Go p e below S0 (s₁.setTop (mkF m 59 #[.val (.int p1), .val (.int p2), .val (.int p3), .val (.int p4), .val (.int p5), .val (.int p6), .val (.int (p1 &&& (3 : Int32))), .val (.int (((p1.toUInt32 >>> ((2 : Int32) &&& 31).toUInt32).toInt32) &&& (3 : Int32))), .val (.int 0), .val (.int 0), .unset, .unset, .unset, .unset, .unset, .unset] [])) := by
          intro t kt
          refine pre6 t ?_
          refine XS.ifYes X0.here hx rfl (pc0 := 30) (pc' := 37) rfl (hb hby at_30) rfl ((if0 _ _).trans (teq hc5).1) (by decide) (by decide) ?_
          refine XS.iconst X0.here hx rfl (hb hby at_37) ?_
          refine XS.istore X0.here hx rfl (hb hby at_38) rfl (l' := #[.val (.int p1), .val (.int p2), .val (.int p3), .val (.int p4), .val (.int p5), .val (.int p6), .val (.int (p1 &&& (3 : Int32))), .val (.int (((p1.toUInt32 >>> ((2 : Int32) &&& 31).toUInt32).toInt32) &&& (3 : Int32))), .val (.int 0), .val (.int 0), .unset, .unset, .unset, .unset, .unset, .unset]) rfl ?_
          refine XS.iload X0.here hx rfl (hb hby at_40) rfl ?_
          show Steps p.tables e below (s₁.setTop (mkF m 42 #[.val (.int p1), .val (.int p2), .val (.int p3), .val (.int p4), .val (.int p5), .val (.int p6), .val (.int (p1 &&& (3 : Int32))), .val (.int (((p1.toUInt32 >>> ((2 : Int32) &&& 31).toUInt32).toInt32) &&& (3 : Int32))), .val (.int 0), .val (.int 0), .unset, .unset, .unset, .unset, .unset, .unset] [(.int 0)])) _
          refine XS.ifYes X0.here hx rfl (pc0 := 42) (pc' := 51) rfl (hb hby at_42) rfl ((if0 _ _).trans (teq (by decide : (0 : Int32) = (0 : Int32))).1) (by decide) (by decide) ?_
          refine XS.iload X0.here hx rfl (hb hby at_51) rfl ?_
          refine XS.ifYes X0.here hx rfl (pc0 := 53) (pc' := 59) rfl (hb hby at_53) rfl ((if0 _ _).trans (teq (by decide : (0 : Int32) = (0 : Int32))).1) (by decide) (by decide) ?_
          exact kt
        exact ⟨p3, p5, (p1 &&& (3 : Int32)), (((p1.toUInt32 >>> ((2 : Int32) &&& 31).toUInt32).toInt32) &&& (3 : Int32)), (0 : Int32), (0 : Int32), s₁, _, (Stand.mono X0 (by decide) (by decide)), N0, e0, (own_in4 _), (own_in4 _), pre7⟩
      · have pre8 : own_Go p e below S0 (s₁.setTop (mkF m 59 #[.val (.int p1), .val (.int p2), .val (.int p3), .val (.int p4), .val (.int p4), .val (.int p6), .val (.int (p1 &&& (3 : Int32))), .val (.int (((p1.toUInt32 >>> ((2 : Int32) &&& 31).toUInt32).toInt32) &&& (3 : Int32))), .val (.int 0), .val (.int 1), .unset, .unset, .unset, .unset, .unset, .unset] [])) := by
          intro t kt
          refine pre6 t ?_
          refine XS.ifNo X0.here hx rfl (hb hby at_30) rfl ((if0 _ _).trans (feq hc5).1) ?_
          refine XS.iconst X0.here hx rfl (hb hby at_33) ?_
          refine XS.goto X0.here hx rfl (pc0 := 34) (pc' := 38) rfl (hb hby at_34) (by decide) (by decide) ?_
          refine XS.istore X0.here hx rfl (hb hby at_38) rfl (l' := #[.val (.int p1), .val (.int p2), .val (.int p3), .val (.int p4), .val (.int p5), .val (.int p6), .val (.int (p1 &&& (3 : Int32))), .val (.int (((p1.toUInt32 >>> ((2 : Int32) &&& 31).toUInt32).toInt32) &&& (3 : Int32))), .val (.int 0), .val (.int 1), .unset, .unset, .unset, .unset, .unset, .unset]) rfl ?_
          show Steps p.tables e below (s₁.setTop (mkF m 40 #[.val (.int p1), .val (.int p2), .val (.int p3), .val (.int p4), .val (.int p5), .val (.int p6), .val (.int (p1 &&& (3 : Int32))), .val (.int (((p1.toUInt32 >>> ((2 : Int32) &&& 31).toUInt32).toInt32) &&& (3 : Int32))), .val (.int 0), .val (.int 1), .unset, .unset, .unset, .unset, .unset, .unset] [])) _
          refine XS.iload X0.here hx rfl (hb hby at_40) rfl ?_
          refine XS.ifYes X0.here hx rfl (pc0 := 42) (pc' := 51) rfl (hb hby at_42) rfl ((if0 _ _).trans (teq (by decide : (0 : Int32) = (0 : Int32))).1) (by decide) (by decide) ?_
          refine XS.iload X0.here hx rfl (hb hby at_51) rfl ?_
          refine XS.ifNo X0.here hx rfl (hb hby at_53) rfl ((if0 _ _).trans (feq (by decide : ¬ ((1 : Int32) = (0 : Int32)))).1) ?_
          show Steps p.tables e below (s₁.setTop (mkF m 56 #[.val (.int p1), .val (.int p2), .val (.int p3), .val (.int p4), .val (.int p5), .val (.int p6), .val (.int (p1 &&& (3 : Int32))), .val (.int (((p1.toUInt32 >>> ((2 : Int32) &&& 31).toUInt32).toInt32) &&& (3 : Int32))), .val (.int 0), .val (.int 1), .unset, .unset, .unset, .unset, .unset, .unset] [])) _
          refine XS.iloadN X0.here hx rfl (hb hby at_56) rfl ?_
          refine XS.istore X0.here hx rfl (hb hby at_57) rfl (l' := #[.val (.int p1), .val (.int p2), .val (.int p3), .val (.int p4), .val (.int p4), .val (.int p6), .val (.int (p1 &&& (3 : Int32))), .val (.int (((p1.toUInt32 >>> ((2 : Int32) &&& 31).toUInt32).toInt32) &&& (3 : Int32))), .val (.int 0), .val (.int 1), .unset, .unset, .unset, .unset, .unset, .unset]) rfl ?_
          exact kt
        exact ⟨p3, p4, (p1 &&& (3 : Int32)), (((p1.toUInt32 >>> ((2 : Int32) &&& 31).toUInt32).toInt32) &&& (3 : Int32)), (0 : Int32), (1 : Int32), s₁, _, (Stand.mono X0 (by decide) (by decide)), N0, e0, (own_in4 _), (own_in4 _), pre8⟩
    · have pre10 : own_Go p e below S0 (s₁.setTop (mkF m 30 #[.val (.int p1), .val (.int p2), .val (.int p3), .val (.int p4), .val (.int p5), .val (.int p6), .val (.int (p1 &&& (3 : Int32))), .val (.int (((p1.toUInt32 >>> ((2 : Int32) &&& 31).toUInt32).toInt32) &&& (3 : Int32))), .val (.int 1), .unset, .unset, .unset, .unset, .unset, .unset, .unset] [(.int (p1 &&& (32 : Int32)))])) := by
        intro t kt
        refine pre4 t ?_
        refine XS.ifNo X0.here hx rfl (hb hby at_16) rfl ((if0 _ _).trans (feq hc3).1) ?_
        refine XS.iconst X0.here hx rfl (hb hby at_19) ?_
        refine XS.goto X0.here hx rfl (pc0 := 20) (pc' := 24) rfl (hb hby at_20) (by decide) (by decide) ?_
        refine XS.istore X0.here hx rfl (hb hby at_24) rfl (l' := #[.val (.int p1), .val (.int p2), .val (.int p3), .val (.int p4), .val (.int p5), .val (.int p6), .val (.int (p1 &&& (3 : Int32))), .val (.int (((p1.toUInt32 >>> ((2 : Int32) &&& 31).toUInt32).toInt32) &&& (3 : Int32))), .val (.int 1), .unset, .unset, .unset, .unset, .unset, .unset, .unset]) rfl ?_
        show Steps p.tables e below (s₁.setTop (mkF m 26 #[.val (.int p1), .val (.int p2), .val (.int p3), .val (.int p4), .val (.int p5), .val (.int p6), .val (.int (p1 &&& (3 : Int32))), .val (.int (((p1.toUInt32 >>> ((2 : Int32) &&& 31).toUInt32).toInt32) &&& (3 : Int32))), .val (.int 1), .unset, .unset, .unset, .unset, .unset, .unset, .unset] [])) _
        refine XS.iloadN X0.here hx rfl (hb hby at_26) rfl ?_
        refine XS.bipush X0.here hx rfl (hb hby at_27) ?_
        refine XS.iand X0.here hx rfl (hb hby at_29) rfl ?_
        exact kt
      by_cases hc9 : (p1 &&& (32 : Int32)) = (0 : Int32)
      · have pre11 : own_Go p e below S0 (s₁.setTop (mkF m 59 #[.val (.int p1), .val (.int p2), .val (.int p2), .val (.int p4), .val (.int p5), .val (.int p6), .val (.int (p1 &&& (3 : Int32))), .val (.int (p1 &&& (3 : Int32))), .val (.int 1), .val (.int 0), .unset, .unset, .unset, .unset, .unset, .unset] [])) := by
          intro t kt
          refine pre10 t ?_
          refine XS.ifYes X0.here hx rfl (pc0 := 30) (pc' := 37) rfl (hb hby at_30) rfl ((if0 _ _).trans (teq hc9).1) (by decide) (by decide) ?_
          refine XS.iconst X0.here hx rfl (hb hby at_37) ?_
          refine XS.istore X0.here hx rfl (hb hby at_38) rfl (l' := #[.val (.int p1), .val (.int p2), .val (.int p3), .val (.int p4), .val (.int p5), .val (.int p6), .val (.int (p1 &&& (3 : Int32))), .val (.int (((p1.toUInt32 >>> ((2 : Int32) &&& 31).toUInt32).toInt32) &&& (3 : Int32))), .val (.int 1), .val (.int 0), .unset, .unset, .unset, .unset, .unset, .unset]) rfl ?_
          refine XS.iload X0.here hx rfl (hb hby at_40) rfl ?_
          show Steps p.tables e below (s₁.setTop (mkF m 42 #[.val (.int p1), .val (.int p2), .val (.int p3), .val (.int p4), .val (.int p5), .val (.int p6), .val (.int (p1 &&& (3 : Int32))), .val (.int (((p1.toUInt32 >>> ((2 : Int32) &&& 31).toUInt32).toInt32) &&& (3 : Int32))), .val (.int 1), .val (.int 0), .unset, .unset, .unset, .unset, .unset, .unset] [(.int 1)])) _
          refine XS.ifNo X0.here hx rfl (hb hby at_42) rfl ((if0 _ _).trans (feq (by decide : ¬ ((1 : Int32) = (0 : Int32)))).1) ?_
          refine XS.iload X0.here hx rfl (hb hby at_45) rfl ?_
          refine XS.istore X0.here hx rfl (hb hby at_47) rfl (l' := #[.val (.int p1), .val (.int p2), .val (.int p3), .val (.int p4), .val (.int p5), .val (.int p6), .val (.int (p1 &&& (3 : Int32))), .val (.int (p1 &&& (3 : Int32))), .val (.int 1), .val (.int 0), .unset, .unset, .unset, .unset, .unset, .unset]) rfl ?_
          refine XS.iloadN X0.here hx rfl (hb hby at_49) rfl ?_
          show Steps p.tables e below (s₁.setTop (mkF m 50 #[.val (.int p1), .val (.int p2), .val (.int p3), .val (.int p4), .val (.int p5), .val (.int p6), .val (.int (p1 &&& (3 : Int32))), .val (.int (p1 &&& (3 : Int32))), .val (.int 1), .val (.int 0), .unset, .unset, .unset, .unset, .unset, .unset] [(.int p2)])) _
          refine XS.istoreN X0.here hx rfl (hb hby at_50) rfl (l' := #[.val (.int p1), .val (.int p2), .val (.int p2), .val (.int p4), .val (.int p5), .val (.int p6), .val (.int (p1 &&& (3 : Int32))), .val (.int (p1 &&& (3 : Int32))), .val (.int 1), .val (.int 0), .unset, .unset, .unset, .unset, .unset, .unset]) rfl ?_
          refine XS.iload X0.here hx rfl (hb hby at_51) rfl ?_
          refine XS.ifYes X0.here hx rfl (pc0 := 53) (pc' := 59) rfl (hb hby at_53) rfl ((if0 _ _).trans (teq (by decide : (0 : Int32) = (0 : Int32))).1) (by decide) (by decide) ?_
          exact kt
        exact ⟨p2, p5, (p1 &&& (3 : Int32)), (p1 &&& (3 : Int32)), (1 : Int32), (0 : Int32), s₁, _, (Stand.mono X0 (by decide) (by decide)), N0, e0, (own_in4 _), (own_in4 _), pre11⟩
      · have pre12 : own_Go p e below S0 (s₁.setTop (mkF m 59 #[.val (.int p1), .val (.int p2), .val (.int p2), .val (.int p4), .val (.int p4), .val (.int p6), .val (.int (p1 &&& (3 : Int32))), .val (.int (p1 &&& (3 : Int32))), .val (.int 1), .val (.int 1), .unset, .unset, .unset, .unset, .unset, .unset] [])) := by
          intro t kt
          refine pre10 t ?_
          refine XS.ifNo X0.here hx rfl (hb hby at_30) rfl ((if0 _ _).trans (feq hc9).1) ?_
          refine XS.iconst X0.here hx rfl (hb hby at_33) ?_
          refine XS.goto X0.here hx rfl (pc0 := 34) (pc' := 38) rfl (hb hby at_34) (by decide) (by decide) ?_
          refine XS.istore X0.here hx rfl (hb hby at_38) rfl (l' := #[.val (.int p1), .val (.int p2), .val (.int p3), .val (.int p4), .val (.int p5), .val (.int p6), .val (.int (p1 &&& (3 : Int32))), .val (.int (((p1.toUInt32 >>> ((2 : Int32) &&& 31).toUInt32).toInt32) &&& (3 : Int32))), .val (.int 1), .val (.int 1), .unset, .unset, .unset, .unset, .unset, .unset]) rfl ?_
          show Steps p.tables e below (s₁.setTop (mkF m 40 #[.val (.int p1), .val (.int p2), .val (.int p3), .val (.int p4), .val (.int p5), .val (.int p6), .val (.int (p1 &&& (3 : Int32))), .val (.int (((p1.toUInt32 >>> ((2 : Int32) &&& 31).toUInt32).toInt32) &&& (3 : Int32))), .val (.int 1), .val (.int 1), .unset, .unset, .unset, .unset, .unset, .unset] [])) _
          refine XS.iload X0.here hx rfl (hb hby at_40) rfl ?_
          refine XS.ifNo X0.here hx rfl (hb hby at_42) rfl ((if0 _ _).trans (feq (by decide : ¬ ((1 : Int32) = (0 : Int32)))).1) ?_
          refine XS.iload X0.here hx rfl (hb hby at_45) rfl ?_
          refine XS.istore X0.here hx rfl (hb hby at_47) rfl (l' := #[.val (.int p1), .val (.int p2), .val (.int p3), .val (.int p4), .val (.int p5), .val (.int p6), .val (.int (p1 &&& (3 : Int32))), .val (.int (p1 &&& (3 : Int32))), .val (.int 1), .val (.int 1), .unset, .unset, .unset, .unset, .unset, .unset]) rfl ?_
          show Steps p.tables e below (s₁.setTop (mkF m 49 #[.val (.int p1), .val (.int p2), .val (.int p3), .val (.int p4), .val (.int p5), .val (.int p6), .val (.int (p1 &&& (3 : Int32))), .val (.int (p1 &&& (3 : Int32))), .val (.int 1), .val (.int 1), .unset, .unset, .unset, .unset, .unset, .unset] [])) _
          refine XS.iloadN X0.here hx rfl (hb hby at_49) rfl ?_
          refine XS.istoreN X0.here hx rfl (hb hby at_50) rfl (l' := #[.val (.int p1), .val (.int p2), .val (.int p2), .val (.int p4), .val (.int p5), .val (.int p6), .val (.int (p1 &&& (3 : Int32))), .val (.int (p1 &&& (3 : Int32))), .val (.int 1), .val (.int 1), .unset, .unset, .unset, .unset, .unset, .unset]) rfl ?_
          refine XS.iload X0.here hx rfl (hb hby at_51) rfl ?_
          refine XS.ifNo X0.here hx rfl (hb hby at_53) rfl ((if0 _ _).trans (feq (by decide : ¬ ((1 : Int32) = (0 : Int32)))).1) ?_
          show Steps p.tables e below (s₁.setTop (mkF m 56 #[.val (.int p1), .val (.int p2), .val (.int p2), .val (.int p4), .val (.int p5), .val (.int p6), .val (.int (p1 &&& (3 : Int32))), .val (.int (p1 &&& (3 : Int32))), .val (.int 1), .val (.int 1), .unset, .unset, .unset, .unset, .unset, .unset] [])) _
          refine XS.iloadN X0.here hx rfl (hb hby at_56) rfl ?_
          refine XS.istore X0.here hx rfl (hb hby at_57) rfl (l' := #[.val (.int p1), .val (.int p2), .val (.int p2), .val (.int p4), .val (.int p4), .val (.int p6), .val (.int (p1 &&& (3 : Int32))), .val (.int (p1 &&& (3 : Int32))), .val (.int 1), .val (.int 1), .unset, .unset, .unset, .unset, .unset, .unset]) rfl ?_
          exact kt
        exact ⟨p2, p4, (p1 &&& (3 : Int32)), (p1 &&& (3 : Int32)), (1 : Int32), (1 : Int32), s₁, _, (Stand.mono X0 (by decide) (by decide)), N0, e0, (own_in4 _), (own_in4 _), pre12⟩
  have pre16 : own_Go p e below S0 (Tj2.setTop (mkF m 62 #[.val (.int p1), .val (.int p2), .val (.int z2), .val (.int p4), .val (.int z4), .val (.int p6), .val (.int z6), .val (.int z7), .val (.int z8), .val (.int z9), .unset, .unset, .unset, .unset, .unset, .unset] [(.int p2), (.int z6)])) := by
    intro t kt
    refine prej2 t ?_
    refine XS.iload Xj2.here hx rfl (hb hby at_59) rfl ?_
    refine XS.iloadN Xj2.here hx rfl (hb hby at_61) rfl ?_
    exact kt
  obtain ⟨s1, sv1, sk1, Tj17, lj17, hj17, vmj17, knj17, Xj17, Nj17, ej17, Kj17, hSj17, hkj17, hZ, hown, chj17, qj91, qj92, prej17⟩ : ∃ (s1 : Addr) (sv1 : Addr) (sk1 : ClassId) (Tj17 : State) (lj17 : List Loc) (hj17 : Heap) (vmj17 : Vm) (knj17 : Nat), Stand p l e room_1 (s.setVm vmj17) m #[(.int p1), (.int p2), (.int p3), (.int p4), (.int p5), (.int p6)] below meth c Tj17 lj17 4 10 ∧ Fr n0 lj17 ∧ Tj17.heap = hj17 ∧ Keep h0 hj17 [] ∧ s.Since vmj17 knj17 ∧ knj17 ≤ hj17.size ∧ Z.Warmed39 (s.setVm vmj17).vm ∧ (s.setVm vmj17).vm.findClass "com/example/horne/horne/term/IndicatorEqualsPinLaw" = some m.cls ∧ CHr Z own_EL s.vm h0 vmj17 hj17 ∧ (h0.size ≤ s1) ∧ own_StrL Z hj17 s1 sv1 sk1 (own_csOf z6 p2) ∧ own_Go p e below S0 (Tj17.setTop (mkF m 65 #[.val (.int p1), .val (.int p2), .val (.int z2), .val (.int p4), .val (.int z4), .val (.int p6), .val (.int z6), .val (.int z7), .val (.int z8), .val (.int z9), .unset, .unset, .unset, .unset, .unset, .unset] [(.ref s1)])) := by
    have kjj17 : Keep h0 h0 [] := Keep.refl _ _
    rcases id pj13 with hk15 | hk15 | hk15 | hk15
    · have pre18 : own_Go p e below S0 (Tj2.setTop (mkF m 62 #[.val (.int p1), .val (.int p2), .val (.int z2), .val (.int p4), .val (.int z4), .val (.int p6), .val (.int z6), .val (.int z7), .val (.int z8), .val (.int z9), .unset, .unset, .unset, .unset, .unset, .unset] [(.int p2), (.int 0)])) := by
        intro t kt
        refine pre16 t ?_
        exact castTop (by rw [hk15]) kt
      obtain ⟨_, _, ⟨T19, L19, k19, n19⟩, -, X19, hSn19, hgn19, ⟨Lc19, hQ19, l19, y19, z19, cr19⟩, st19⟩ := callSS Xj2 hx (y := own_m5) hown (mvT hZ (hw _ (own_w 0 rfl))) (mvT hZ (hw _ (own_w 1 rfl))) (mvT hZ (hw _ (own_w 2 rfl))) (mvT hZ (hw _ (own_w 3 rfl))) (by decide) (own_backH (s := s) (vm0 := s.vm) (W := 0) (rmstr0 l Z a0 hw [] p2 h0 n0 Z0 O0) hZ (hw _ (own_w 3 rfl)) (hw _ (own_w 2 rfl)) (by decide) (by decide) (own_EW a0 Z hw) ch0.1 all0 all0) (g := (mkF m 62 #[.val (.int p1), .val (.int p2), .val (.int z2), .val (.int p4), .val (.int z4), .val (.int p6), .val (.int z6), .val (.int z7), .val (.int z8), .val (.int z9), .unset, .unset, .unset, .unset, .unset, .unset] [(.int p2), (.int 0)])) rfl (by rw [hml]; rfl) (argsL := [(.int 0), (.int p2)]) (rest := []) (lenOf pd_10 rfl) rfl (by show 2 * 0 + _ ≤ _; exact Nat.le_of_eq rfl) (hb hby at_62) (fun _ _ => ⟨rfl, ej2, (by decide : 0 + 4 ≤ _), (by decide : 0 + 8 ≤ _)⟩)
      dsimp only [Pt.U, Pt.locs, Pt.cells, Pt.slots] at X19 l19 y19 z19 st19 hQ19 hSn19 hgn19 cr19
      subst l19 y19 z19
      have hown := own_fc hown hSn19.1
      have hZ : Z.Warmed39 (s.setVm T19.vm).vm := State.Warmed39.trans (t := s) hZ hSn19.1
      obtain ⟨b20, vb21, kb22, rfl, Nq19, K19, g23, g24⟩ := hQ19
      have N19 := Fr.app Nj2 Nq19
      have ge25 : n0 ≤ b20 := Nat.le_trans Z0 g23
      have sz26 : h0.size ≤ b20 := Nat.le_trans kjj17.1 g23
      have zs27 : n0 ≤ T19.heap.size := Nat.le_trans Z0 K19.1
      have kc28 : Keep h0 T19.heap [] := kjj17.trans K19 all0
      have ch29 : CHr Z own_EL s.vm h0 T19.vm T19.heap := ch0.trans (cr19)
      have pre30 : own_Go p e below S0 (T19.setTop (mkF m 65 #[.val (.int p1), .val (.int p2), .val (.int z2), .val (.int p4), .val (.int z4), .val (.int p6), .val (.int z6), .val (.int z7), .val (.int z8), .val (.int z9), .unset, .unset, .unset, .unset, .unset, .unset] [(.ref b20)])) := by
        intro t kt
        refine pre18 t ?_
        refine st19.trans ?_
        show Steps p.tables e below (T19.setTop (mkF m 65 #[.val (.int p1), .val (.int p2), .val (.int z2), .val (.int p4), .val (.int z4), .val (.int p6), .val (.int z6), .val (.int z7), .val (.int z8), .val (.int z9), .unset, .unset, .unset, .unset, .unset, .unset] [(.ref b20)])) _
        exact kt
      exact ⟨b20, vb21, kb22, T19, _, _, T19.vm, _, (Stand.mono X19 (by decide) (by decide)), N19, rfl, kc28, hSn19, (Nat.le_refl _), hZ, hown, ch29, sz26, (by rw [hk15, own_cs0]; exact g24), pre30⟩
    · have pre31 : own_Go p e below S0 (Tj2.setTop (mkF m 62 #[.val (.int p1), .val (.int p2), .val (.int z2), .val (.int p4), .val (.int z4), .val (.int p6), .val (.int z6), .val (.int z7), .val (.int z8), .val (.int z9), .unset, .unset, .unset, .unset, .unset, .unset] [(.int p2), (.int 1)])) := by
        intro t kt
        refine pre16 t ?_
        exact castTop (by rw [hk15]) kt
      obtain ⟨_, _, ⟨T32, L32, k32, n32⟩, -, X32, ⟨Lc32, hQ32, l32, y32, z32⟩, st32⟩ := Jvm.LawKit.callS Xj2 hx (y := own_m5) hown (mvT hZ (hw _ (own_w 0 rfl))) (mvT hZ (hw _ (own_w 1 rfl))) (mvT hZ (hw _ (own_w 2 rfl))) (mvT hZ (hw _ (own_w 3 rfl))) (by decide) (backOf (W := 0) (rmstr1 l Z a0 hw [] p2 wC h0 n0 Z0 O0 qC) hZ (hw _ (own_w 3 rfl)) (hw _ (own_w 2 rfl)) (by decide) (by decide)) (g := (mkF m 62 #[.val (.int p1), .val (.int p2), .val (.int z2), .val (.int p4), .val (.int z4), .val (.int p6), .val (.int z6), .val (.int z7), .val (.int z8), .val (.int z9), .unset, .unset, .unset, .unset, .unset, .unset] [(.int p2), (.int 1)])) rfl (by rw [hml]; rfl) (argsL := [(.int 1), (.int p2)]) (rest := []) (lenOf pd_10 rfl) rfl (by show 2 * 0 + _ ≤ _; exact Nat.le_of_eq rfl) (hb hby at_62) (fun _ _ => ⟨rfl, ej2, (by decide : 0 + 3 ≤ _), (by decide : 0 + 6 ≤ _)⟩)
      dsimp only [Pt.U, Pt.locs, Pt.cells, Pt.slots] at X32 l32 y32 z32 st32 hQ32
      subst l32 y32 z32
      obtain ⟨b33, vb34, kb35, rfl, Nq32, K32, g36, g37, g38⟩ := hQ32
      have N32 := Fr.app Nj2 Nq32
      have ge39 : n0 ≤ b33 := Nat.le_trans Z0 g36
      have sf40 : Safe Z own_EL s.vm h0 b33 := Safe.new g36
      have sz41 : h0.size ≤ b33 := Nat.le_trans kjj17.1 g36
      have ge42 : n0 ≤ vb34 := Nat.le_trans Z0 g37
      have sf43 : Safe Z own_EL s.vm h0 vb34 := Safe.new g37
      have sz44 : h0.size ≤ vb34 := Nat.le_trans kjj17.1 g37
      have zs45 : n0 ≤ T32.heap.size := Nat.le_trans Z0 K32.1
      have kc46 : Keep h0 T32.heap [] := kjj17.trans K32 all0
      have ch47 : CHr Z own_EL s.vm h0 s.vm T32.heap := ch0.trans (CHr.keep K32 all0 ch0.1)
      have sf48 : Safe Z own_EL s.vm T32.heap b33 := Safe.keep K32 all0 ch0.1 sf40
      have sf49 : Safe Z own_EL s.vm T32.heap vb34 := Safe.keep K32 all0 ch0.1 sf43
      have pre50 : own_Go p e below S0 (T32.setTop (mkF m 65 #[.val (.int p1), .val (.int p2), .val (.int z2), .val (.int p4), .val (.int z4), .val (.int p6), .val (.int z6), .val (.int z7), .val (.int z8), .val (.int z9), .unset, .unset, .unset, .unset, .unset, .unset] [(.ref b33)])) := by
        intro t kt
        refine pre31 t ?_
        refine st32 _ ?_
        show Steps p.tables e below (T32.setTop (mkF m 65 #[.val (.int p1), .val (.int p2), .val (.int z2), .val (.int p4), .val (.int z4), .val (.int p6), .val (.int z6), .val (.int z7), .val (.int z8), .val (.int z9), .unset, .unset, .unset, .unset, .unset, .unset] [(.ref b33)])) _
        exact kt
      exact ⟨b33, vb34, kb35, T32, _, _, s.vm, _, (Stand.mono X32 (by decide) (by decide)), N32, rfl, kc46, (own_since s 0), (Nat.zero_le _), hZ, hown, ch47, sz41, (by rw [hk15, own_cs1]; exact g38), pre50⟩
    · have pre51 : own_Go p e below S0 (Tj2.setTop (mkF m 62 #[.val (.int p1), .val (.int p2), .val (.int z2), .val (.int p4), .val (.int z4), .val (.int p6), .val (.int z6), .val (.int z7), .val (.int z8), .val (.int z9), .unset, .unset, .unset, .unset, .unset, .unset] [(.int p2), (.int 2)])) := by
        intro t kt
        refine pre16 t ?_
        exact castTop (by rw [hk15]) kt
      obtain ⟨_, _, ⟨T52, L52, k52, n52⟩, -, X52, ⟨Lc52, hQ52, l52, y52, z52⟩, st52⟩ := Jvm.LawKit.callS Xj2 hx (y := own_m5) hown (mvT hZ (hw _ (own_w 0 rfl))) (mvT hZ (hw _ (own_w 1 rfl))) (mvT hZ (hw _ (own_w 2 rfl))) (mvT hZ (hw _ (own_w 3 rfl))) (by decide) (backOf (W := 0) (rmstr2 l Z a0 hw [] p2 wC h0 n0 Z0 O0 qC) hZ (hw _ (own_w 3 rfl)) (hw _ (own_w 2 rfl)) (by decide) (by decide)) (g := (mkF m 62 #[.val (.int p1), .val (.int p2), .val (.int z2), .val (.int p4), .val (.int z4), .val (.int p6), .val (.int z6), .val (.int z7), .val (.int z8), .val (.int z9), .unset, .unset, .unset, .unset, .unset, .unset] [(.int p2), (.int 2)])) rfl (by rw [hml]; rfl) (argsL := [(.int 2), (.int p2)]) (rest := []) (lenOf pd_10 rfl) rfl (by show 2 * 0 + _ ≤ _; exact Nat.le_of_eq rfl) (hb hby at_62) (fun _ _ => ⟨rfl, ej2, (by decide : 0 + 3 ≤ _), (by decide : 0 + 8 ≤ _)⟩)
      dsimp only [Pt.U, Pt.locs, Pt.cells, Pt.slots] at X52 l52 y52 z52 st52 hQ52
      subst l52 y52 z52
      obtain ⟨b53, vb54, kb55, rfl, Nq52, K52, g56, g57, g58⟩ := hQ52
      have N52 := Fr.app Nj2 Nq52
      have ge59 : n0 ≤ b53 := Nat.le_trans Z0 g56
      have sf60 : Safe Z own_EL s.vm h0 b53 := Safe.new g56
      have sz61 : h0.size ≤ b53 := Nat.le_trans kjj17.1 g56
      have ge62 : n0 ≤ vb54 := Nat.le_trans Z0 g57
      have sf63 : Safe Z own_EL s.vm h0 vb54 := Safe.new g57
      have sz64 : h0.size ≤ vb54 := Nat.le_trans kjj17.1 g57
      have zs65 : n0 ≤ T52.heap.size := Nat.le_trans Z0 K52.1
      have kc66 : Keep h0 T52.heap [] := kjj17.trans K52 all0
      have ch67 : CHr Z own_EL s.vm h0 s.vm T52.heap := ch0.trans (CHr.keep K52 all0 ch0.1)
      have sf68 : Safe Z own_EL s.vm T52.heap b53 := Safe.keep K52 all0 ch0.1 sf60
      have sf69 : Safe Z own_EL s.vm T52.heap vb54 := Safe.keep K52 all0 ch0.1 sf63
      have pre70 : own_Go p e below S0 (T52.setTop (mkF m 65 #[.val (.int p1), .val (.int p2), .val (.int z2), .val (.int p4), .val (.int z4), .val (.int p6), .val (.int z6), .val (.int z7), .val (.int z8), .val (.int z9), .unset, .unset, .unset, .unset, .unset, .unset] [(.ref b53)])) := by
        intro t kt
        refine pre51 t ?_
        refine st52 _ ?_
        show Steps p.tables e below (T52.setTop (mkF m 65 #[.val (.int p1), .val (.int p2), .val (.int z2), .val (.int p4), .val (.int z4), .val (.int p6), .val (.int z6), .val (.int z7), .val (.int z8), .val (.int z9), .unset, .unset, .unset, .unset, .unset, .unset] [(.ref b53)])) _
        exact kt
      exact ⟨b53, vb54, kb55, T52, _, _, s.vm, _, (Stand.mono X52 (by decide) (by decide)), N52, rfl, kc66, (own_since s 0), (Nat.zero_le _), hZ, hown, ch67, sz61, (by rw [hk15, own_cs2]; exact g58), pre70⟩
    · have pre71 : own_Go p e below S0 (Tj2.setTop (mkF m 62 #[.val (.int p1), .val (.int p2), .val (.int z2), .val (.int p4), .val (.int z4), .val (.int p6), .val (.int z6), .val (.int z7), .val (.int z8), .val (.int z9), .unset, .unset, .unset, .unset, .unset, .unset] [(.int p2), (.int 3)])) := by
        intro t kt
        refine pre16 t ?_
        exact castTop (by rw [hk15]) kt
      obtain ⟨_, _, ⟨T72, L72, k72, n72⟩, -, X72, ⟨Lc72, hQ72, l72, y72, z72⟩, st72⟩ := Jvm.LawKit.callS Xj2 hx (y := own_m5) hown (mvT hZ (hw _ (own_w 0 rfl))) (mvT hZ (hw _ (own_w 1 rfl))) (mvT hZ (hw _ (own_w 2 rfl))) (mvT hZ (hw _ (own_w 3 rfl))) (by decide) (backOf (W := 0) (rmstr3 l Z a0 hw [] p2 wC h0 n0 Z0 O0 qC) hZ (hw _ (own_w 3 rfl)) (hw _ (own_w 2 rfl)) (by decide) (by decide)) (g := (mkF m 62 #[.val (.int p1), .val (.int p2), .val (.int z2), .val (.int p4), .val (.int z4), .val (.int p6), .val (.int z6), .val (.int z7), .val (.int z8), .val (.int z9), .unset, .unset, .unset, .unset, .unset, .unset] [(.int p2), (.int 3)])) rfl (by rw [hml]; rfl) (argsL := [(.int 3), (.int p2)]) (rest := []) (lenOf pd_10 rfl) rfl (by show 2 * 0 + _ ≤ _; exact Nat.le_of_eq rfl) (hb hby at_62) (fun _ _ => ⟨rfl, ej2, (by decide : 0 + 3 ≤ _), (by decide : 0 + 10 ≤ _)⟩)
      dsimp only [Pt.U, Pt.locs, Pt.cells, Pt.slots] at X72 l72 y72 z72 st72 hQ72
      subst l72 y72 z72
      obtain ⟨b73, vb74, kb75, rfl, Nq72, K72, g76, g77, g78⟩ := hQ72
      have N72 := Fr.app Nj2 Nq72
      have ge79 : n0 ≤ b73 := Nat.le_trans Z0 g76
      have sf80 : Safe Z own_EL s.vm h0 b73 := Safe.new g76
      have sz81 : h0.size ≤ b73 := Nat.le_trans kjj17.1 g76
      have ge82 : n0 ≤ vb74 := Nat.le_trans Z0 g77
      have sf83 : Safe Z own_EL s.vm h0 vb74 := Safe.new g77
      have sz84 : h0.size ≤ vb74 := Nat.le_trans kjj17.1 g77
      have zs85 : n0 ≤ T72.heap.size := Nat.le_trans Z0 K72.1
      have kc86 : Keep h0 T72.heap [] := kjj17.trans K72 all0
      have ch87 : CHr Z own_EL s.vm h0 s.vm T72.heap := ch0.trans (CHr.keep K72 all0 ch0.1)
      have sf88 : Safe Z own_EL s.vm T72.heap b73 := Safe.keep K72 all0 ch0.1 sf80
      have sf89 : Safe Z own_EL s.vm T72.heap vb74 := Safe.keep K72 all0 ch0.1 sf83
      have pre90 : own_Go p e below S0 (T72.setTop (mkF m 65 #[.val (.int p1), .val (.int p2), .val (.int z2), .val (.int p4), .val (.int z4), .val (.int p6), .val (.int z6), .val (.int z7), .val (.int z8), .val (.int z9), .unset, .unset, .unset, .unset, .unset, .unset] [(.ref b73)])) := by
        intro t kt
        refine pre71 t ?_
        refine st72 _ ?_
        show Steps p.tables e below (T72.setTop (mkF m 65 #[.val (.int p1), .val (.int p2), .val (.int z2), .val (.int p4), .val (.int z4), .val (.int p6), .val (.int z6), .val (.int z7), .val (.int z8), .val (.int z9), .unset, .unset, .unset, .unset, .unset, .unset] [(.ref b73)])) _
        exact kt
      exact ⟨b73, vb74, kb75, T72, _, _, s.vm, _, (Stand.mono X72 (by decide) (by decide)), N72, rfl, kc86, (own_since s 0), (Nat.zero_le _), hZ, hown, ch87, sz81, (by rw [hk15, own_cs3]; exact g78), pre90⟩
  have ge93 : n0 ≤ s1 := Nat.le_trans Z0 qj91
  have zs94 : n0 ≤ hj17.size := Nat.le_trans Z0 Kj17.1
  have pre96 : own_Go p e below S0 (Tj17.setTop (mkF m 70 #[.val (.int p1), .val (.int p2), .val (.int z2), .val (.int p4), .val (.int z4), .val (.int p6), .val (.int z6), .val (.int z7), .val (.int z8), .val (.int z9), .val (.ref s1), .unset, .unset, .unset, .unset, .unset] [(.int z2), (.int z7)])) := by
    intro t kt
    refine prej17 t ?_
    refine XS.astore Xj17.here hx rfl (hb hby at_65) rfl rfl (l' := #[.val (.int p1), .val (.int p2), .val (.int z2), .val (.int p4), .val (.int z4), .val (.int p6), .val (.int z6), .val (.int z7), .val (.int z8), .val (.int z9), .val (.ref s1), .unset, .unset, .unset, .unset, .unset]) rfl ?_
    refine XS.iload Xj17.here hx rfl (hb hby at_67) rfl ?_
    refine XS.iloadN Xj17.here hx rfl (hb hby at_69) rfl ?_
    exact kt
  obtain ⟨s2, sv2, sk2, Tj97, lj97, hj97, vmj97, knj97, Xj97, Nj97, ej97, Kj97, hSj97, hkj97, hZ, hown, qj192, qj193, prej97⟩ : ∃ (s2 : Addr) (sv2 : Addr) (sk2 : ClassId) (Tj97 : State) (lj97 : List Loc) (hj97 : Heap) (vmj97 : Vm) (knj97 : Nat), Stand p l e room_1 (s.setVm vmj97) m #[(.int p1), (.int p2), (.int p3), (.int p4), (.int p5), (.int p6)] below meth c Tj97 lj97 8 20 ∧ Fr n0 lj97 ∧ Tj97.heap = hj97 ∧ Keep hj17 hj97 [] ∧ s.Since vmj97 knj97 ∧ knj97 ≤ hj97.size ∧ Z.Warmed39 (s.setVm vmj97).vm ∧ (s.setVm vmj97).vm.findClass "com/example/horne/horne/term/IndicatorEqualsPinLaw" = some m.cls ∧ (hj17.size ≤ s2) ∧ own_StrL Z hj97 s2 sv2 sk2 (own_csOf z7 z2) ∧ own_Go p e below S0 (Tj97.setTop (mkF m 73 #[.val (.int p1), .val (.int p2), .val (.int z2), .val (.int p4), .val (.int z4), .val (.int p6), .val (.int z6), .val (.int z7), .val (.int z8), .val (.int z9), .val (.ref s1), .unset, .unset, .unset, .unset, .unset] [(.ref s2)])) := by
    have kjj97 : Keep hj17 hj17 [] := Keep.refl _ _
    rcases id pj14 with hk95 | hk95 | hk95 | hk95
    · have pre98 : own_Go p e below S0 (Tj17.setTop (mkF m 70 #[.val (.int p1), .val (.int p2), .val (.int z2), .val (.int p4), .val (.int z4), .val (.int p6), .val (.int z6), .val (.int z7), .val (.int z8), .val (.int z9), .val (.ref s1), .unset, .unset, .unset, .unset, .unset] [(.int z2), (.int 0)])) := by
        intro t kt
        refine pre96 t ?_
        exact castTop (by rw [hk95]) kt
      have f99 : Old Z n0 hj17 := (O0.keep Kj17 all0)
      obtain ⟨_, _, ⟨T100, L100, k100, n100⟩, -, X100, hSn100, hgn100, ⟨Lc100, hQ100, l100, y100, z100, cr100⟩, st100⟩ := callSS Xj17 hx (y := own_m5) hown (mvT hZ (hw _ (own_w 0 rfl))) (mvT hZ (hw _ (own_w 1 rfl))) (mvT hZ (hw _ (own_w 2 rfl))) (mvT hZ (hw _ (own_w 3 rfl))) (by decide) (own_backH (s := s) (vm0 := vmj17) (W := 0) (rmstr0 l Z a0 hw [] z2 hj17 n0 zs94 f99) hZ (hw _ (own_w 3 rfl)) (hw _ (own_w 2 rfl)) (by decide) (by decide) (own_EW a0 Z hw) chj17.1 all0 all0) (g := (mkF m 70 #[.val (.int p1), .val (.int p2), .val (.int z2), .val (.int p4), .val (.int z4), .val (.int p6), .val (.int z6), .val (.int z7), .val (.int z8), .val (.int z9), .val (.ref s1), .unset, .unset, .unset, .unset, .unset] [(.int z2), (.int 0)])) rfl (by rw [hml]; rfl) (argsL := [(.int 0), (.int z2)]) (rest := []) (lenOf pd_10 rfl) rfl (by show 2 * 0 + _ ≤ _; exact Nat.le_of_eq rfl) (hb hby at_70) (fun _ _ => ⟨rfl, ej17, (by decide : 4 + 4 ≤ _), (by decide : 10 + 8 ≤ _)⟩)
      dsimp only [Pt.U, Pt.locs, Pt.cells, Pt.slots] at X100 l100 y100 z100 st100 hQ100 hSn100 hgn100 cr100
      subst l100 y100 z100
      have hown := own_fc hown hSn100.1
      have hZ : Z.Warmed39 (s.setVm T100.vm).vm := State.Warmed39.trans (t := (s.setVm vmj17)) hZ hSn100.1
      have hSf100 := foldS (s := s) (vm0 := vmj17) hSj17 (by rw [ej17]; exact hkj17) hSn100 hgn100
      obtain ⟨b101, vb102, kb103, rfl, Nq100, K100, g104, g105⟩ := hQ100
      have N100 := Fr.app Nj17 Nq100
      have ne106 : s1 ≠ b101 := Nat.ne_of_lt (Nat.lt_of_lt_of_le (own_StrL.lt0 qj92) g104)
      have ne107 : sv1 ≠ b101 := Nat.ne_of_lt (Nat.lt_of_lt_of_le (own_StrL.lt1 qj92) g104)
      have ge108 : n0 ≤ b101 := Nat.le_trans zs94 g104
      have sz109 : hj17.size ≤ b101 := Nat.le_trans kjj97.1 g104
      have zs110 : n0 ≤ T100.heap.size := Nat.le_trans zs94 K100.1
      have kc111 : Keep hj17 T100.heap [] := kjj97.trans K100 all0
      have ch112 : CHr Z own_EL s.vm h0 T100.vm T100.heap := chj17.trans (cr100)
      have pre113 : own_Go p e below S0 (T100.setTop (mkF m 73 #[.val (.int p1), .val (.int p2), .val (.int z2), .val (.int p4), .val (.int z4), .val (.int p6), .val (.int z6), .val (.int z7), .val (.int z8), .val (.int z9), .val (.ref s1), .unset, .unset, .unset, .unset, .unset] [(.ref b101)])) := by
        intro t kt
        refine pre98 t ?_
        refine st100.trans ?_
        show Steps p.tables e below (T100.setTop (mkF m 73 #[.val (.int p1), .val (.int p2), .val (.int z2), .val (.int p4), .val (.int z4), .val (.int p6), .val (.int z6), .val (.int z7), .val (.int z8), .val (.int z9), .val (.ref s1), .unset, .unset, .unset, .unset, .unset] [(.ref b101)])) _
        exact kt
      exact ⟨b101, vb102, kb103, T100, _, _, T100.vm, _, (Stand.mono X100 (by decide) (by decide)), N100, rfl, kc111, hSf100, (Nat.le_refl _), hZ, hown, sz109, (by rw [hk95, own_cs0]; exact g105), pre113⟩
    · have pre114 : own_Go p e below S0 (Tj17.setTop (mkF m 70 #[.val (.int p1), .val (.int p2), .val (.int z2), .val (.int p4), .val (.int z4), .val (.int p6), .val (.int z6), .val (.int z7), .val (.int z8), .val (.int z9), .val (.ref s1), .unset, .unset, .unset, .unset, .unset] [(.int z2), (.int 1)])) := by
        intro t kt
        refine pre96 t ?_
        exact castTop (by rw [hk95]) kt
      have f115 : Old Z n0 hj17 := (O0.keep Kj17 all0)
      obtain ⟨_, _, ⟨T116, L116, k116, n116⟩, -, X116, ⟨Lc116, hQ116, l116, y116, z116⟩, st116⟩ := Jvm.LawKit.callS Xj17 hx (y := own_m5) hown (mvT hZ (hw _ (own_w 0 rfl))) (mvT hZ (hw _ (own_w 1 rfl))) (mvT hZ (hw _ (own_w 2 rfl))) (mvT hZ (hw _ (own_w 3 rfl))) (by decide) (backOf (W := 0) (rmstr1 l Z a0 hw [] z2 wC hj17 n0 zs94 f115 qC) hZ (hw _ (own_w 3 rfl)) (hw _ (own_w 2 rfl)) (by decide) (by decide)) (g := (mkF m 70 #[.val (.int p1), .val (.int p2), .val (.int z2), .val (.int p4), .val (.int z4), .val (.int p6), .val (.int z6), .val (.int z7), .val (.int z8), .val (.int z9), .val (.ref s1), .unset, .unset, .unset, .unset, .unset] [(.int z2), (.int 1)])) rfl (by rw [hml]; rfl) (argsL := [(.int 1), (.int z2)]) (rest := []) (lenOf pd_10 rfl) rfl (by show 2 * 0 + _ ≤ _; exact Nat.le_of_eq rfl) (hb hby at_70) (fun _ _ => ⟨rfl, ej17, (by decide : 4 + 3 ≤ _), (by decide : 10 + 6 ≤ _)⟩)
      dsimp only [Pt.U, Pt.locs, Pt.cells, Pt.slots] at X116 l116 y116 z116 st116 hQ116
      subst l116 y116 z116
      obtain ⟨b117, vb118, kb119, rfl, Nq116, K116, g120, g121, g122⟩ := hQ116
      have N116 := Fr.app Nj17 Nq116
      have ne123 : s1 ≠ b117 := Nat.ne_of_lt (Nat.lt_of_lt_of_le (own_StrL.lt0 qj92) g120)
      have ne124 : sv1 ≠ b117 := Nat.ne_of_lt (Nat.lt_of_lt_of_le (own_StrL.lt1 qj92) g120)
      have ge125 : n0 ≤ b117 := Nat.le_trans zs94 g120
      have sf126 : Safe Z own_EL vmj17 hj17 b117 := Safe.new g120
      have sz127 : hj17.size ≤ b117 := Nat.le_trans kjj97.1 g120
      have ne128 : s1 ≠ vb118 := Nat.ne_of_lt (Nat.lt_of_lt_of_le (own_StrL.lt0 qj92) g121)
      have ne129 : sv1 ≠ vb118 := Nat.ne_of_lt (Nat.lt_of_lt_of_le (own_StrL.lt1 qj92) g121)
      have ge130 : n0 ≤ vb118 := Nat.le_trans zs94 g121
      have sf131 : Safe Z own_EL vmj17 hj17 vb118 := Safe.new g121
      have sz132 : hj17.size ≤ vb118 := Nat.le_trans kjj97.1 g121
      have zs133 : n0 ≤ T116.heap.size := Nat.le_trans zs94 K116.1
      have kc134 : Keep hj17 T116.heap [] := kjj97.trans K116 all0
      have hk135 : _ ≤ T116.heap.size := Nat.le_trans hkj17 K116.1
      have ch136 : CHr Z own_EL s.vm h0 vmj17 T116.heap := chj17.trans (CHr.keep K116 all0 chj17.1)
      have sf137 : Safe Z own_EL vmj17 T116.heap b117 := Safe.keep K116 all0 chj17.1 sf126
      have sf138 : Safe Z own_EL vmj17 T116.heap vb118 := Safe.keep K116 all0 chj17.1 sf131
      have pre139 : own_Go p e below S0 (T116.setTop (mkF m 73 #[.val (.int p1), .val (.int p2), .val (.int z2), .val (.int p4), .val (.int z4), .val (.int p6), .val (.int z6), .val (.int z7), .val (.int z8), .val (.int z9), .val (.ref s1), .unset, .unset, .unset, .unset, .unset] [(.ref b117)])) := by
        intro t kt
        refine pre114 t ?_
        refine st116 _ ?_
        show Steps p.tables e below (T116.setTop (mkF m 73 #[.val (.int p1), .val (.int p2), .val (.int z2), .val (.int p4), .val (.int z4), .val (.int p6), .val (.int z6), .val (.int z7), .val (.int z8), .val (.int z9), .val (.ref s1), .unset, .unset, .unset, .unset, .unset] [(.ref b117)])) _
        exact kt
      exact ⟨b117, vb118, kb119, T116, _, _, vmj17, _, (Stand.mono X116 (by decide) (by decide)), N116, rfl, kc134, hSj17, hk135, hZ, hown, sz127, (by rw [hk95, own_cs1]; exact g122), pre139⟩
    · have pre140 : own_Go p e below S0 (Tj17.setTop (mkF m 70 #[.val (.int p1), .val (.int p2), .val (.int z2), .val (.int p4), .val (.int z4), .val (.int p6), .val (.int z6), .val (.int z7), .val (.int z8), .val (.int z9), .val (.ref s1), .unset, .unset, .unset, .unset, .unset] [(.int z2), (.int 2)])) := by
        intro t kt
        refine pre96 t ?_
        exact castTop (by rw [hk95]) kt
      have f141 : Old Z n0 hj17 := (O0.keep Kj17 all0)
      obtain ⟨_, _, ⟨T142, L142, k142, n142⟩, -, X142, ⟨Lc142, hQ142, l142, y142, z142⟩, st142⟩ := Jvm.LawKit.callS Xj17 hx (y := own_m5) hown (mvT hZ (hw _ (own_w 0 rfl))) (mvT hZ (hw _ (own_w 1 rfl))) (mvT hZ (hw _ (own_w 2 rfl))) (mvT hZ (hw _ (own_w 3 rfl))) (by decide) (backOf (W := 0) (rmstr2 l Z a0 hw [] z2 wC hj17 n0 zs94 f141 qC) hZ (hw _ (own_w 3 rfl)) (hw _ (own_w 2 rfl)) (by decide) (by decide)) (g := (mkF m 70 #[.val (.int p1), .val (.int p2), .val (.int z2), .val (.int p4), .val (.int z4), .val (.int p6), .val (.int z6), .val (.int z7), .val (.int z8), .val (.int z9), .val (.ref s1), .unset, .unset, .unset, .unset, .unset] [(.int z2), (.int 2)])) rfl (by rw [hml]; rfl) (argsL := [(.int 2), (.int z2)]) (rest := []) (lenOf pd_10 rfl) rfl (by show 2 * 0 + _ ≤ _; exact Nat.le_of_eq rfl) (hb hby at_70) (fun _ _ => ⟨rfl, ej17, (by decide : 4 + 3 ≤ _), (by decide : 10 + 8 ≤ _)⟩)
      dsimp only [Pt.U, Pt.locs, Pt.cells, Pt.slots] at X142 l142 y142 z142 st142 hQ142
      subst l142 y142 z142
      obtain ⟨b143, vb144, kb145, rfl, Nq142, K142, g146, g147, g148⟩ := hQ142
      have N142 := Fr.app Nj17 Nq142
      have ne149 : s1 ≠ b143 := Nat.ne_of_lt (Nat.lt_of_lt_of_le (own_StrL.lt0 qj92) g146)
      have ne150 : sv1 ≠ b143 := Nat.ne_of_lt (Nat.lt_of_lt_of_le (own_StrL.lt1 qj92) g146)
      have ge151 : n0 ≤ b143 := Nat.le_trans zs94 g146
      have sf152 : Safe Z own_EL vmj17 hj17 b143 := Safe.new g146
      have sz153 : hj17.size ≤ b143 := Nat.le_trans kjj97.1 g146
      have ne154 : s1 ≠ vb144 := Nat.ne_of_lt (Nat.lt_of_lt_of_le (own_StrL.lt0 qj92) g147)
      have ne155 : sv1 ≠ vb144 := Nat.ne_of_lt (Nat.lt_of_lt_of_le (own_StrL.lt1 qj92) g147)
      have ge156 : n0 ≤ vb144 := Nat.le_trans zs94 g147
      have sf157 : Safe Z own_EL vmj17 hj17 vb144 := Safe.new g147
      have sz158 : hj17.size ≤ vb144 := Nat.le_trans kjj97.1 g147
      have zs159 : n0 ≤ T142.heap.size := Nat.le_trans zs94 K142.1
      have kc160 : Keep hj17 T142.heap [] := kjj97.trans K142 all0
      have hk161 : _ ≤ T142.heap.size := Nat.le_trans hkj17 K142.1
      have ch162 : CHr Z own_EL s.vm h0 vmj17 T142.heap := chj17.trans (CHr.keep K142 all0 chj17.1)
      have sf163 : Safe Z own_EL vmj17 T142.heap b143 := Safe.keep K142 all0 chj17.1 sf152
      have sf164 : Safe Z own_EL vmj17 T142.heap vb144 := Safe.keep K142 all0 chj17.1 sf157
      have pre165 : own_Go p e below S0 (T142.setTop (mkF m 73 #[.val (.int p1), .val (.int p2), .val (.int z2), .val (.int p4), .val (.int z4), .val (.int p6), .val (.int z6), .val (.int z7), .val (.int z8), .val (.int z9), .val (.ref s1), .unset, .unset, .unset, .unset, .unset] [(.ref b143)])) := by
        intro t kt
        refine pre140 t ?_
        refine st142 _ ?_
        show Steps p.tables e below (T142.setTop (mkF m 73 #[.val (.int p1), .val (.int p2), .val (.int z2), .val (.int p4), .val (.int z4), .val (.int p6), .val (.int z6), .val (.int z7), .val (.int z8), .val (.int z9), .val (.ref s1), .unset, .unset, .unset, .unset, .unset] [(.ref b143)])) _
        exact kt
      exact ⟨b143, vb144, kb145, T142, _, _, vmj17, _, (Stand.mono X142 (by decide) (by decide)), N142, rfl, kc160, hSj17, hk161, hZ, hown, sz153, (by rw [hk95, own_cs2]; exact g148), pre165⟩
    · have pre166 : own_Go p e below S0 (Tj17.setTop (mkF m 70 #[.val (.int p1), .val (.int p2), .val (.int z2), .val (.int p4), .val (.int z4), .val (.int p6), .val (.int z6), .val (.int z7), .val (.int z8), .val (.int z9), .val (.ref s1), .unset, .unset, .unset, .unset, .unset] [(.int z2), (.int 3)])) := by
        intro t kt
        refine pre96 t ?_
        exact castTop (by rw [hk95]) kt
      have f167 : Old Z n0 hj17 := (O0.keep Kj17 all0)
      obtain ⟨_, _, ⟨T168, L168, k168, n168⟩, -, X168, ⟨Lc168, hQ168, l168, y168, z168⟩, st168⟩ := Jvm.LawKit.callS Xj17 hx (y := own_m5) hown (mvT hZ (hw _ (own_w 0 rfl))) (mvT hZ (hw _ (own_w 1 rfl))) (mvT hZ (hw _ (own_w 2 rfl))) (mvT hZ (hw _ (own_w 3 rfl))) (by decide) (backOf (W := 0) (rmstr3 l Z a0 hw [] z2 wC hj17 n0 zs94 f167 qC) hZ (hw _ (own_w 3 rfl)) (hw _ (own_w 2 rfl)) (by decide) (by decide)) (g := (mkF m 70 #[.val (.int p1), .val (.int p2), .val (.int z2), .val (.int p4), .val (.int z4), .val (.int p6), .val (.int z6), .val (.int z7), .val (.int z8), .val (.int z9), .val (.ref s1), .unset, .unset, .unset, .unset, .unset] [(.int z2), (.int 3)])) rfl (by rw [hml]; rfl) (argsL := [(.int 3), (.int z2)]) (rest := []) (lenOf pd_10 rfl) rfl (by show 2 * 0 + _ ≤ _; exact Nat.le_of_eq rfl) (hb hby at_70) (fun _ _ => ⟨rfl, ej17, (by decide : 4 + 3 ≤ _), (by decide : 10 + 10 ≤ _)⟩)
      dsimp only [Pt.U, Pt.locs, Pt.cells, Pt.slots] at X168 l168 y168 z168 st168 hQ168
      subst l168 y168 z168
      obtain ⟨b169, vb170, kb171, rfl, Nq168, K168, g172, g173, g174⟩ := hQ168
      have N168 := Fr.app Nj17 Nq168
      have ne175 : s1 ≠ b169 := Nat.ne_of_lt (Nat.lt_of_lt_of_le (own_StrL.lt0 qj92) g172)
      have ne176 : sv1 ≠ b169 := Nat.ne_of_lt (Nat.lt_of_lt_of_le (own_StrL.lt1 qj92) g172)
      have ge177 : n0 ≤ b169 := Nat.le_trans zs94 g172
      have sf178 : Safe Z own_EL vmj17 hj17 b169 := Safe.new g172
      have sz179 : hj17.size ≤ b169 := Nat.le_trans kjj97.1 g172
      have ne180 : s1 ≠ vb170 := Nat.ne_of_lt (Nat.lt_of_lt_of_le (own_StrL.lt0 qj92) g173)
      have ne181 : sv1 ≠ vb170 := Nat.ne_of_lt (Nat.lt_of_lt_of_le (own_StrL.lt1 qj92) g173)
      have ge182 : n0 ≤ vb170 := Nat.le_trans zs94 g173
      have sf183 : Safe Z own_EL vmj17 hj17 vb170 := Safe.new g173
      have sz184 : hj17.size ≤ vb170 := Nat.le_trans kjj97.1 g173
      have zs185 : n0 ≤ T168.heap.size := Nat.le_trans zs94 K168.1
      have kc186 : Keep hj17 T168.heap [] := kjj97.trans K168 all0
      have hk187 : _ ≤ T168.heap.size := Nat.le_trans hkj17 K168.1
      have ch188 : CHr Z own_EL s.vm h0 vmj17 T168.heap := chj17.trans (CHr.keep K168 all0 chj17.1)
      have sf189 : Safe Z own_EL vmj17 T168.heap b169 := Safe.keep K168 all0 chj17.1 sf178
      have sf190 : Safe Z own_EL vmj17 T168.heap vb170 := Safe.keep K168 all0 chj17.1 sf183
      have pre191 : own_Go p e below S0 (T168.setTop (mkF m 73 #[.val (.int p1), .val (.int p2), .val (.int z2), .val (.int p4), .val (.int z4), .val (.int p6), .val (.int z6), .val (.int z7), .val (.int z8), .val (.int z9), .val (.ref s1), .unset, .unset, .unset, .unset, .unset] [(.ref b169)])) := by
        intro t kt
        refine pre166 t ?_
        refine st168 _ ?_
        show Steps p.tables e below (T168.setTop (mkF m 73 #[.val (.int p1), .val (.int p2), .val (.int z2), .val (.int p4), .val (.int z4), .val (.int p6), .val (.int z6), .val (.int z7), .val (.int z8), .val (.int z9), .val (.ref s1), .unset, .unset, .unset, .unset, .unset] [(.ref b169)])) _
        exact kt
      exact ⟨b169, vb170, kb171, T168, _, _, vmj17, _, (Stand.mono X168 (by decide) (by decide)), N168, rfl, kc186, hSj17, hk187, hZ, hown, sz179, (by rw [hk95, own_cs3]; exact g174), pre191⟩
  have ne194 : s1 ≠ s2 := Nat.ne_of_lt (Nat.lt_of_lt_of_le (own_StrL.lt0 qj92) qj192)
  have ne195 : sv1 ≠ s2 := Nat.ne_of_lt (Nat.lt_of_lt_of_le (own_StrL.lt1 qj92) qj192)
  have ge196 : n0 ≤ s2 := Nat.le_trans zs94 qj192
  have zs197 : n0 ≤ hj97.size := Nat.le_trans zs94 Kj97.1
  have pre198 : own_Go p e below S0 (Tj97.setTop (mkF m 75 #[.val (.int p1), .val (.int p2), .val (.int z2), .val (.int p4), .val (.int z4), .val (.int p6), .val (.int z6), .val (.int z7), .val (.int z8), .val (.int z9), .val (.ref s1), .val (.ref s2), .unset, .unset, .unset, .unset] [])) := by
    intro t kt
    refine prej97 t ?_
    refine XS.astore Xj97.here hx rfl (hb hby at_73) rfl rfl (l' := #[.val (.int p1), .val (.int p2), .val (.int z2), .val (.int p4), .val (.int z4), .val (.int p6), .val (.int z6), .val (.int z7), .val (.int z8), .val (.int z9), .val (.ref s1), .val (.ref s2), .unset, .unset, .unset, .unset]) rfl ?_
    exact kt
  obtain ⟨T199, h199, X199, e199, E199, A199, D199, -, st199⟩ := newO Xj97 hx hZ hown (hw _ (own_w 26 rfl)) (hw _ (own_w 27 rfl)) (hw _ (own_w 28 rfl)) ej97 (g := (mkF m 75 #[.val (.int p1), .val (.int p2), .val (.int z2), .val (.int p4), .val (.int z4), .val (.int p6), .val (.int z6), .val (.int z7), .val (.int z8), .val (.int z9), .val (.ref s1), .val (.ref s2), .unset, .unset, .unset, .unset] [])) rfl (hb hby at_75) (by decide) (by decide)
  obtain ⟨b199, g199⟩ : ∃ z, z = hj97.size := ⟨_, rfl⟩
  rw [← g199] at A199 D199 st199
  have f200 : own_StrL Z hj97 s1 sv1 sk1 (own_csOf z6 p2) := (own_StrL.keep qj92 Kj97 nin0 nin0)
  have ne201 : s1 ≠ b199 := Nat.ne_of_lt (Nat.lt_of_lt_of_le (own_StrL.lt0 f200) (Nat.le_of_eq g199.symm))
  have ne202 : sv1 ≠ b199 := Nat.ne_of_lt (Nat.lt_of_lt_of_le (own_StrL.lt1 f200) (Nat.le_of_eq g199.symm))
  have ne203 : s2 ≠ b199 := Nat.ne_of_lt (Nat.lt_of_lt_of_le (own_StrL.lt0 qj193) (Nat.le_of_eq g199.symm))
  have ne204 : sv2 ≠ b199 := Nat.ne_of_lt (Nat.lt_of_lt_of_le (own_StrL.lt1 qj193) (Nat.le_of_eq g199.symm))
  have ge205 : n0 ≤ b199 := Nat.le_trans zs197 (Nat.le_of_eq g199.symm)
  have zs206 : n0 ≤ h199.size := Nat.le_trans zs197 E199.1
  have hk207 : _ ≤ h199.size := Nat.le_trans hkj97 E199.1
  have fd208 : Fld Z h199 b199 "com/example/horne/horne/term/Indicator" "name" "Ljava/lang/String;" .null := D199 (Or.inr (hw _ (own_w 40 rfl))) (ty := (.object "java/lang/String")) (by decide)
  have fd209 : Fld Z h199 b199 "com/example/horne/horne/term/Indicator" "arity" "I" (.int 0) := D199 (Or.inr (hw _ (own_w 42 rfl))) (ty := .int) (by decide)
  have pre210 : own_Go p e below S0 (T199.setTop (mkF m 82 #[.val (.int p1), .val (.int p2), .val (.int z2), .val (.int p4), .val (.int z4), .val (.int p6), .val (.int z6), .val (.int z7), .val (.int z8), .val (.int z9), .val (.ref s1), .val (.ref s2), .unset, .unset, .unset, .unset] [(.int p4), (.ref s1), (.ref b199), (.ref b199)])) := by
    intro t kt
    refine pre198 t ?_
    refine st199 _ ?_
    refine XS.dup X199.here hx rfl (hb hby at_78) rfl rfl ?_
    refine XS.aload X199.here hx rfl (hb hby at_79) rfl rfl ?_
    refine XS.iloadN X199.here hx rfl (hb hby at_81) rfl ?_
    show Steps p.tables e below (T199.setTop (mkF m 82 #[.val (.int p1), .val (.int p2), .val (.int z2), .val (.int p4), .val (.int z4), .val (.int p6), .val (.int z6), .val (.int z7), .val (.int z8), .val (.int z9), .val (.ref s1), .val (.ref s2), .unset, .unset, .unset, .unset] [(.int p4), (.ref s1), (.ref b199), (.ref b199)])) _
    exact kt
  have f211 : Exa Z h199 s1 "java/lang/String" := ((qj92.1.keep Kj97).ext E199)
  obtain ⟨_, _, ⟨T212, L212, k212, n212⟩, -, X212, hSn212, hgn212, ⟨Lc212, hQ212, l212, y212, z212⟩, st212⟩ := X199.specialBackS hx (y := own_m1) rfl hown (mvT hZ (hw _ (own_w 29 rfl))) (mvT hZ (hw _ (own_w 30 rfl))) (mvT hZ (hw _ (own_w 31 rfl))) (by decide) (backOfS (W := 1) (rm5 l Z a0 hw [] b199 s1 p4 h199 n0 zs206 A199 f211 fd208 fd209 ge205) hZ (hw _ (own_w 31 rfl)) (hw _ (own_w 28 rfl)) (by decide) (by decide)) (g := (mkF m 82 #[.val (.int p1), .val (.int p2), .val (.int z2), .val (.int p4), .val (.int z4), .val (.int p6), .val (.int z6), .val (.int z7), .val (.int z8), .val (.int z9), .val (.ref s1), .val (.ref s2), .unset, .unset, .unset, .unset] [(.int p4), (.ref s1), (.ref b199), (.ref b199)])) rfl (by rw [hml]; rfl) (Steps.refl _) (a := b199) (argsL := [(.ref s1), (.int p4)]) (rest := [(.ref b199)]) (lenOf pd_11 rfl) rfl (by show 2 * 0 + _ ≤ _; exact Nat.le_of_eq rfl) (hb hby at_82) (fun _ _ => ⟨rfl, e199, (by decide : 9 + 2 ≤ _), (by decide : 22 + 20 ≤ _)⟩)
  dsimp only [Pt.U, Pt.locs, Pt.cells, Pt.slots] at X212 l212 y212 z212 st212 hQ212 hSn212 hgn212
  subst l212 y212 z212
  have hown := own_fc hown hSn212.1
  have hZ : Z.Warmed39 (s.setVm T212.vm).vm := State.Warmed39.trans (t := (s.setVm vmj97)) hZ hSn212.1
  have hSf212 := foldS (s := s) (vm0 := vmj97) hSj97 (by rw [e199]; exact hk207) hSn212 hgn212
  obtain ⟨rfl, Nq212, K212, g213, g214, g215⟩ := hQ212
  have N212 := Fr.app Nj97 Nq212
  have zs216 : n0 ≤ T212.heap.size := Nat.le_trans zs206 K212.1
  have pre218 : own_Go p e below S0 (T212.setTop (mkF m 95 #[.val (.int p1), .val (.int p2), .val (.int z2), .val (.int p4), .val (.int z4), .val (.int p6), .val (.int z6), .val (.int z7), .val (.int z8), .val (.int z9), .val (.ref s1), .val (.ref s2), .val (.ref b199), .val (.int (p6 &&& (3 : Int32))), .unset, .unset] [(.int (p6 &&& (3 : Int32)))])) := by
    intro t kt
    refine pre210 t ?_
    refine st212.trans ?_
    show Steps p.tables e below (T212.setTop (mkF m 85 #[.val (.int p1), .val (.int p2), .val (.int z2), .val (.int p4), .val (.int z4), .val (.int p6), .val (.int z6), .val (.int z7), .val (.int z8), .val (.int z9), .val (.ref s1), .val (.ref s2), .unset, .unset, .unset, .unset] [(.ref b199)])) _
    refine XS.astore X212.here hx rfl (hb hby at_85) rfl rfl (l' := #[.val (.int p1), .val (.int p2), .val (.int z2), .val (.int p4), .val (.int z4), .val (.int p6), .val (.int z6), .val (.int z7), .val (.int z8), .val (.int z9), .val (.ref s1), .val (.ref s2), .val (.ref b199), .unset, .unset, .unset]) rfl ?_
    refine XS.iload X212.here hx rfl (hb hby at_87) rfl ?_
    refine XS.iconst X212.here hx rfl (hb hby at_89) ?_
    show Steps p.tables e below (T212.setTop (mkF m 90 #[.val (.int p1), .val (.int p2), .val (.int z2), .val (.int p4), .val (.int z4), .val (.int p6), .val (.int z6), .val (.int z7), .val (.int z8), .val (.int z9), .val (.ref s1), .val (.ref s2), .val (.ref b199), .unset, .unset, .unset] [(.int 3), (.int p6)])) _
    refine XS.iand X212.here hx rfl (hb hby at_90) rfl ?_
    refine XS.istore X212.here hx rfl (hb hby at_91) rfl (l' := #[.val (.int p1), .val (.int p2), .val (.int z2), .val (.int p4), .val (.int z4), .val (.int p6), .val (.int z6), .val (.int z7), .val (.int z8), .val (.int z9), .val (.ref s1), .val (.ref s2), .val (.ref b199), .val (.int (p6 &&& (3 : Int32))), .unset, .unset]) rfl ?_
    refine XS.iload X212.here hx rfl (hb hby at_93) rfl ?_
    exact kt
  by_cases hc217 : (p6 &&& (3 : Int32)) = (0 : Int32)
  · have pre219 : own_Go p e below S0 (T212.setTop (mkF m 98 #[.val (.int p1), .val (.int p2), .val (.int z2), .val (.int p4), .val (.int z4), .val (.int p6), .val (.int z6), .val (.int z7), .val (.int z8), .val (.int z9), .val (.ref s1), .val (.ref s2), .val (.ref b199), .val (.int (p6 &&& (3 : Int32))), .unset, .unset] [])) := by
      intro t kt
      refine pre218 t ?_
      refine XS.ifNo X212.here hx rfl (hb hby at_95) rfl ((if0 _ _).trans (teq hc217).2) ?_
      exact kt
    obtain ⟨T220, h220, X220, e220, E220, A220, D220, -, st220⟩ := newO X212 hx hZ hown (hw _ (own_w 26 rfl)) (hw _ (own_w 27 rfl)) (hw _ (own_w 28 rfl)) rfl (g := (mkF m 98 #[.val (.int p1), .val (.int p2), .val (.int z2), .val (.int p4), .val (.int z4), .val (.int p6), .val (.int z6), .val (.int z7), .val (.int z8), .val (.int z9), .val (.ref s1), .val (.ref s2), .val (.ref b199), .val (.int (p6 &&& (3 : Int32))), .unset, .unset] [])) rfl (hb hby at_98) (by decide) (by decide)
    obtain ⟨b220, g220⟩ : ∃ z, z = T212.heap.size := ⟨_, rfl⟩
    rw [← g220] at A220 D220 st220
    have f221 : own_StrL Z T212.heap s1 sv1 sk1 (own_csOf z6 p2) := (own_StrL.keep (own_StrL.ext f200 E199) K212 (ninS ne201 nin0) (ninS ne202 nin0))
    have ne222 : s1 ≠ b220 := Nat.ne_of_lt (Nat.lt_of_lt_of_le (own_StrL.lt0 f221) (Nat.le_of_eq g220.symm))
    have ne223 : sv1 ≠ b220 := Nat.ne_of_lt (Nat.lt_of_lt_of_le (own_StrL.lt1 f221) (Nat.le_of_eq g220.symm))
    have f224 : own_StrL Z T212.heap s2 sv2 sk2 (own_csOf z7 z2) := (own_StrL.keep (own_StrL.ext qj193 E199) K212 (ninS ne203 nin0) (ninS ne204 nin0))
    have ne225 : s2 ≠ b220 := Nat.ne_of_lt (Nat.lt_of_lt_of_le (own_StrL.lt0 f224) (Nat.le_of_eq g220.symm))
    have ne226 : sv2 ≠ b220 := Nat.ne_of_lt (Nat.lt_of_lt_of_le (own_StrL.lt1 f224) (Nat.le_of_eq g220.symm))
    have ne227 : b199 ≠ b220 := Nat.ne_of_lt (Nat.lt_of_lt_of_le g213.lt (Nat.le_of_eq g220.symm))
    have ge228 : n0 ≤ b220 := Nat.le_trans zs216 (Nat.le_of_eq g220.symm)
    have zs229 : n0 ≤ h220.size := Nat.le_trans zs216 E220.1
    have hk230 : _ ≤ h220.size := Nat.le_trans (Nat.le_refl _) E220.1
    have fd231 : Fld Z h220 b220 "com/example/horne/horne/term/Indicator" "name" "Ljava/lang/String;" .null := D220 (Or.inr (hw _ (own_w 40 rfl))) (ty := (.object "java/lang/String")) (by decide)
    have fd232 : Fld Z h220 b220 "com/example/horne/horne/term/Indicator" "arity" "I" (.int 0) := D220 (Or.inr (hw _ (own_w 42 rfl))) (ty := .int) (by decide)
    have pre233 : own_Go p e below S0 (T220.setTop (mkF m 106 #[.val (.int p1), .val (.int p2), .val (.int z2), .val (.int p4), .val (.int z4), .val (.int p6), .val (.int z6), .val (.int z7), .val (.int z8), .val (.int z9), .val (.ref s1), .val (.ref s2), .val (.ref b199), .val (.int (p6 &&& (3 : Int32))), .unset, .unset] [(.int z4), (.ref s2), (.ref b220), (.ref b220)])) := by
      intro t kt
      refine pre219 t ?_
      refine st220 _ ?_
      refine XS.dup X220.here hx rfl (hb hby at_101) rfl rfl ?_
      refine XS.aload X220.here hx rfl (hb hby at_102) rfl rfl ?_
      refine XS.iload X220.here hx rfl (hb hby at_104) rfl ?_
      show Steps p.tables e below (T220.setTop (mkF m 106 #[.val (.int p1), .val (.int p2), .val (.int z2), .val (.int p4), .val (.int z4), .val (.int p6), .val (.int z6), .val (.int z7), .val (.int z8), .val (.int z9), .val (.ref s1), .val (.ref s2), .val (.ref b199), .val (.int (p6 &&& (3 : Int32))), .unset, .unset] [(.int z4), (.ref s2), (.ref b220), (.ref b220)])) _
      exact kt
    have f234 : Exa Z h220 s2 "java/lang/String" := (((qj193.1.ext E199).keep K212).ext E220)
    obtain ⟨_, _, ⟨T235, L235, k235, n235⟩, -, X235, hSn235, hgn235, ⟨Lc235, hQ235, l235, y235, z235⟩, st235⟩ := X220.specialBackS hx (y := own_m1) rfl hown (mvT hZ (hw _ (own_w 29 rfl))) (mvT hZ (hw _ (own_w 30 rfl))) (mvT hZ (hw _ (own_w 31 rfl))) (by decide) (backOfS (W := 1) (rm5 l Z a0 hw [] b220 s2 z4 h220 n0 zs229 A220 f234 fd231 fd232 ge228) hZ (hw _ (own_w 31 rfl)) (hw _ (own_w 28 rfl)) (by decide) (by decide)) (g := (mkF m 106 #[.val (.int p1), .val (.int p2), .val (.int z2), .val (.int p4), .val (.int z4), .val (.int p6), .val (.int z6), .val (.int z7), .val (.int z8), .val (.int z9), .val (.ref s1), .val (.ref s2), .val (.ref b199), .val (.int (p6 &&& (3 : Int32))), .unset, .unset] [(.int z4), (.ref s2), (.ref b220), (.ref b220)])) rfl (by rw [hml]; rfl) (Steps.refl _) (a := b220) (argsL := [(.ref s2), (.int z4)]) (rest := [(.ref b220)]) (lenOf pd_11 rfl) rfl (by show 2 * 0 + _ ≤ _; exact Nat.le_of_eq rfl) (hb hby at_106) (fun _ _ => ⟨rfl, e220, (by decide : 12 + 2 ≤ _), (by decide : 44 + 20 ≤ _)⟩)
    dsimp only [Pt.U, Pt.locs, Pt.cells, Pt.slots] at X235 l235 y235 z235 st235 hQ235 hSn235 hgn235
    subst l235 y235 z235
    have hown := own_fc hown hSn235.1
    have hZ : Z.Warmed39 (s.setVm T235.vm).vm := State.Warmed39.trans (t := (s.setVm T212.vm)) hZ hSn235.1
    have hSf235 := foldS (s := s) (vm0 := T212.vm) hSf212 (by rw [e220]; exact hk230) hSn235 hgn235
    obtain ⟨rfl, Nq235, K235, g236, g237, g238⟩ := hQ235
    have N235 := Fr.app N212 Nq235
    have zs239 : n0 ≤ T235.heap.size := Nat.le_trans zs229 K235.1
    have pre240 : own_Go p e below S0 (T235.setTop (mkF m 111 #[.val (.int p1), .val (.int p2), .val (.int z2), .val (.int p4), .val (.int z4), .val (.int p6), .val (.int z6), .val (.int z7), .val (.int z8), .val (.int z9), .val (.ref s1), .val (.ref s2), .val (.ref b199), .val (.int (p6 &&& (3 : Int32))), .val (.ref b220), .unset] [])) := by
      intro t kt
      refine pre233 t ?_
      refine st235.trans ?_
      show Steps p.tables e below (T235.setTop (mkF m 109 #[.val (.int p1), .val (.int p2), .val (.int z2), .val (.int p4), .val (.int z4), .val (.int p6), .val (.int z6), .val (.int z7), .val (.int z8), .val (.int z9), .val (.ref s1), .val (.ref s2), .val (.ref b199), .val (.int (p6 &&& (3 : Int32))), .unset, .unset] [(.ref b220)])) _
      refine XS.astore X235.here hx rfl (hb hby at_109) rfl rfl (l' := #[.val (.int p1), .val (.int p2), .val (.int z2), .val (.int p4), .val (.int z4), .val (.int p6), .val (.int z6), .val (.int z7), .val (.int z8), .val (.int z9), .val (.ref s1), .val (.ref s2), .val (.ref b199), .val (.int (p6 &&& (3 : Int32))), .val (.ref b220), .unset]) rfl ?_
      exact kt
    obtain ⟨Tj241, lj241, Xj241, Nj241, ej241, prej241⟩ : ∃ (Tj241 : State) (lj241 : List Loc), Stand p l e room_1 (s.setVm T235.vm) m #[(.int p1), (.int p2), (.int p3), (.int p4), (.int p5), (.int p6)] below meth c Tj241 lj241 14 64 ∧ Fr n0 lj241 ∧ Tj241.heap = T235.heap ∧ own_Go p e below S0 (Tj241.setTop (mkF m 139 #[.val (.int p1), .val (.int p2), .val (.int z2), .val (.int p4), .val (.int z4), .val (.int p6), .val (.int z6), .val (.int z7), .val (.int z8), .val (.int z9), .val (.ref s1), .val (.ref s2), .val (.ref b199), .val (.int (p6 &&& (3 : Int32))), .val (.ref b220), .unset] [(.int (own_ex p4 z4 z6 z7 p2 z2))])) := by
      have pre243 : own_Go p e below S0 (T235.setTop (mkF m 114 #[.val (.int p1), .val (.int p2), .val (.int z2), .val (.int p4), .val (.int z4), .val (.int p6), .val (.int z6), .val (.int z7), .val (.int z8), .val (.int z9), .val (.ref s1), .val (.ref s2), .val (.ref b199), .val (.int (p6 &&& (3 : Int32))), .val (.ref b220), .unset] [(.int z4), (.int p4)])) := by
        intro t kt
        refine pre240 t ?_
        refine XS.iloadN X235.here hx rfl (hb hby at_111) rfl ?_
        refine XS.iload X235.here hx rfl (hb hby at_112) rfl ?_
        exact kt
      by_cases hc242 : p4 = z4
      · have pre245 : own_Go p e below S0 (T235.setTop (mkF m 121 #[.val (.int p1), .val (.int p2), .val (.int z2), .val (.int p4), .val (.int z4), .val (.int p6), .val (.int z6), .val (.int z7), .val (.int z8), .val (.int z9), .val (.ref s1), .val (.ref s2), .val (.ref b199), .val (.int (p6 &&& (3 : Int32))), .val (.ref b220), .unset] [(.int z7), (.int z6)])) := by
          intro t kt
          refine pre243 t ?_
          refine XS.icmpNo X235.here hx rfl (hb hby at_114) rfl (teq hc242).2 ?_
          refine XS.iload X235.here hx rfl (hb hby at_117) rfl ?_
          refine XS.iload X235.here hx rfl (hb hby at_119) rfl ?_
          exact kt
        by_cases hc244 : z6 = z7
        · have pre246 : own_Go p e below S0 (T235.setTop (mkF m 128 #[.val (.int p1), .val (.int p2), .val (.int z2), .val (.int p4), .val (.int z4), .val (.int p6), .val (.int z6), .val (.int z7), .val (.int z8), .val (.int z9), .val (.ref s1), .val (.ref s2), .val (.ref b199), .val (.int (p6 &&& (3 : Int32))), .val (.ref b220), .unset] [(.int z2), (.int p2), (.int z6)])) := by
            intro t kt
            refine pre245 t ?_
            refine XS.icmpNo X235.here hx rfl (hb hby at_121) rfl (teq hc244).2 ?_
            refine XS.iload X235.here hx rfl (hb hby at_124) rfl ?_
            refine XS.iloadN X235.here hx rfl (hb hby at_126) rfl ?_
            refine XS.iloadN X235.here hx rfl (hb hby at_127) rfl ?_
            show Steps p.tables e below (T235.setTop (mkF m 128 #[.val (.int p1), .val (.int p2), .val (.int z2), .val (.int p4), .val (.int z4), .val (.int p6), .val (.int z6), .val (.int z7), .val (.int z8), .val (.int z9), .val (.ref s1), .val (.ref s2), .val (.ref b199), .val (.int (p6 &&& (3 : Int32))), .val (.ref b220), .unset] [(.int z2), (.int p2), (.int z6)])) _
            exact kt
          obtain ⟨_, _, ⟨T247, L247, k247, n247⟩, -, X247, ⟨Lc247, hQ247, l247, y247, z247⟩, st247⟩ := Jvm.LawKit.callS X235 hx (y := own_m4) hown (mvT hZ (hw _ (own_w 89 rfl))) (mvT hZ (hw _ (own_w 90 rfl))) (mvT hZ (hw _ (own_w 2 rfl))) (mvT hZ (hw _ (own_w 91 rfl))) (by decide) (backOf (W := 0) (rm15 l Z a0 hw [] z6 p2 z2 T235.heap n0 zs239 ) hZ (hw _ (own_w 91 rfl)) (hw _ (own_w 2 rfl)) (by decide) (by decide)) (g := (mkF m 128 #[.val (.int p1), .val (.int p2), .val (.int z2), .val (.int p4), .val (.int z4), .val (.int p6), .val (.int z6), .val (.int z7), .val (.int z8), .val (.int z9), .val (.ref s1), .val (.ref s2), .val (.ref b199), .val (.int (p6 &&& (3 : Int32))), .val (.ref b220), .unset] [(.int z2), (.int p2), (.int z6)])) rfl (by rw [hml]; rfl) (argsL := [(.int z6), (.int p2), (.int z2)]) (rest := []) (lenOf pd_12 rfl) rfl (by show 2 * 0 + _ ≤ _; exact Nat.le_of_eq rfl) (hb hby at_128) (fun _ _ => ⟨rfl, rfl, (by decide : 14 + 0 ≤ _), (by decide : 64 + 0 ≤ _)⟩)
          dsimp only [Pt.U, Pt.locs, Pt.cells, Pt.slots] at X247 l247 y247 z247 st247 hQ247
          subst l247 y247 z247
          obtain ⟨rfl, Nq247, eq247⟩ := hQ247
          have N247 := Fr.app N235 Nq247
          have pre249 : own_Go p e below S0 (T247.setTop (mkF m 131 #[.val (.int p1), .val (.int p2), .val (.int z2), .val (.int p4), .val (.int z4), .val (.int p6), .val (.int z6), .val (.int z7), .val (.int z8), .val (.int z9), .val (.ref s1), .val (.ref s2), .val (.ref b199), .val (.int (p6 &&& (3 : Int32))), .val (.ref b220), .unset] [(.int (own_sc z6 p2 z2))])) := by
            intro t kt
            refine pre246 t ?_
            refine st247 _ ?_
            show Steps p.tables e below (T247.setTop (mkF m 131 #[.val (.int p1), .val (.int p2), .val (.int z2), .val (.int p4), .val (.int z4), .val (.int p6), .val (.int z6), .val (.int z7), .val (.int z8), .val (.int z9), .val (.ref s1), .val (.ref s2), .val (.ref b199), .val (.int (p6 &&& (3 : Int32))), .val (.ref b220), .unset] [(.int (own_sc z6 p2 z2))])) _
            exact kt
          by_cases hc248 : (own_sc z6 p2 z2) = (0 : Int32)
          · have pre250 : own_Go p e below S0 (T247.setTop (mkF m 139 #[.val (.int p1), .val (.int p2), .val (.int z2), .val (.int p4), .val (.int z4), .val (.int p6), .val (.int z6), .val (.int z7), .val (.int z8), .val (.int z9), .val (.ref s1), .val (.ref s2), .val (.ref b199), .val (.int (p6 &&& (3 : Int32))), .val (.ref b220), .unset] [(.int 0)])) := by
              intro t kt
              refine pre249 t ?_
              refine XS.ifYes X247.here hx rfl (pc0 := 131) (pc' := 138) rfl (hb hby at_131) rfl ((if0 _ _).trans (teq hc248).1) (by decide) (by decide) ?_
              refine XS.iconst X247.here hx rfl (hb hby at_138) ?_
              exact kt
            have pre251 : own_Go p e below S0 (T247.setTop (mkF m 139 #[.val (.int p1), .val (.int p2), .val (.int z2), .val (.int p4), .val (.int z4), .val (.int p6), .val (.int z6), .val (.int z7), .val (.int z8), .val (.int z9), .val (.ref s1), .val (.ref s2), .val (.ref b199), .val (.int (p6 &&& (3 : Int32))), .val (.ref b220), .unset] [(.int (own_ex p4 z4 z6 z7 p2 z2))])) := by
              intro t kt
              refine pre250 t ?_
              exact castTop (by rw [own_ex, if_pos hc242, if_pos hc244, if_pos hc248]) kt
            exact ⟨T247, _, (Stand.mono X247 (by decide) (by decide)), N247, eq247, pre251⟩
          · have pre252 : own_Go p e below S0 (T247.setTop (mkF m 139 #[.val (.int p1), .val (.int p2), .val (.int z2), .val (.int p4), .val (.int z4), .val (.int p6), .val (.int z6), .val (.int z7), .val (.int z8), .val (.int z9), .val (.ref s1), .val (.ref s2), .val (.ref b199), .val (.int (p6 &&& (3 : Int32))), .val (.ref b220), .unset] [(.int 1)])) := by
              intro t kt
              refine pre249 t ?_
              refine XS.ifNo X247.here hx rfl (hb hby at_131) rfl ((if0 _ _).trans (feq hc248).1) ?_
              refine XS.iconst X247.here hx rfl (hb hby at_134) ?_
              refine XS.goto X247.here hx rfl (pc0 := 135) (pc' := 139) rfl (hb hby at_135) (by decide) (by decide) ?_
              exact kt
            have pre253 : own_Go p e below S0 (T247.setTop (mkF m 139 #[.val (.int p1), .val (.int p2), .val (.int z2), .val (.int p4), .val (.int z4), .val (.int p6), .val (.int z6), .val (.int z7), .val (.int z8), .val (.int z9), .val (.ref s1), .val (.ref s2), .val (.ref b199), .val (.int (p6 &&& (3 : Int32))), .val (.ref b220), .unset] [(.int (own_ex p4 z4 z6 z7 p2 z2))])) := by
              intro t kt
              refine pre252 t ?_
              exact castTop (by rw [own_ex, if_pos hc242, if_pos hc244, if_neg hc248]) kt
            exact ⟨T247, _, (Stand.mono X247 (by decide) (by decide)), N247, eq247, pre253⟩
        · have pre254 : own_Go p e below S0 (T235.setTop (mkF m 139 #[.val (.int p1), .val (.int p2), .val (.int z2), .val (.int p4), .val (.int z4), .val (.int p6), .val (.int z6), .val (.int z7), .val (.int z8), .val (.int z9), .val (.ref s1), .val (.ref s2), .val (.ref b199), .val (.int (p6 &&& (3 : Int32))), .val (.ref b220), .unset] [(.int 0)])) := by
            intro t kt
            refine pre245 t ?_
            refine XS.icmpYes X235.here hx rfl (pc0 := 121) (pc' := 138) rfl (hb hby at_121) rfl (feq hc244).2 (by decide) (by decide) ?_
            refine XS.iconst X235.here hx rfl (hb hby at_138) ?_
            exact kt
          have pre255 : own_Go p e below S0 (T235.setTop (mkF m 139 #[.val (.int p1), .val (.int p2), .val (.int z2), .val (.int p4), .val (.int z4), .val (.int p6), .val (.int z6), .val (.int z7), .val (.int z8), .val (.int z9), .val (.ref s1), .val (.ref s2), .val (.ref b199), .val (.int (p6 &&& (3 : Int32))), .val (.ref b220), .unset] [(.int (own_ex p4 z4 z6 z7 p2 z2))])) := by
            intro t kt
            refine pre254 t ?_
            exact castTop (by rw [own_ex, if_pos hc242, if_neg hc244]) kt
          exact ⟨T235, _, (Stand.mono X235 (by decide) (by decide)), N235, rfl, pre255⟩
      · have pre256 : own_Go p e below S0 (T235.setTop (mkF m 139 #[.val (.int p1), .val (.int p2), .val (.int z2), .val (.int p4), .val (.int z4), .val (.int p6), .val (.int z6), .val (.int z7), .val (.int z8), .val (.int z9), .val (.ref s1), .val (.ref s2), .val (.ref b199), .val (.int (p6 &&& (3 : Int32))), .val (.ref b220), .unset] [(.int 0)])) := by
          intro t kt
          refine pre243 t ?_
          refine XS.icmpYes X235.here hx rfl (pc0 := 114) (pc' := 138) rfl (hb hby at_114) rfl (feq hc242).2 (by decide) (by decide) ?_
          refine XS.iconst X235.here hx rfl (hb hby at_138) ?_
          exact kt
        have pre257 : own_Go p e below S0 (T235.setTop (mkF m 139 #[.val (.int p1), .val (.int p2), .val (.int z2), .val (.int p4), .val (.int z4), .val (.int p6), .val (.int z6), .val (.int z7), .val (.int z8), .val (.int z9), .val (.ref s1), .val (.ref s2), .val (.ref b199), .val (.int (p6 &&& (3 : Int32))), .val (.ref b220), .unset] [(.int (own_ex p4 z4 z6 z7 p2 z2))])) := by
          intro t kt
          refine pre256 t ?_
          exact castTop (by rw [own_ex, if_neg hc242]) kt
        exact ⟨T235, _, (Stand.mono X235 (by decide) (by decide)), N235, rfl, pre257⟩
    have pre258 : own_Go p e below S0 (Tj241.setTop (mkF m 145 #[.val (.int p1), .val (.int p2), .val (.int z2), .val (.int p4), .val (.int z4), .val (.int p6), .val (.int z6), .val (.int z7), .val (.int z8), .val (.int z9), .val (.ref s1), .val (.ref s2), .val (.ref b199), .val (.int (p6 &&& (3 : Int32))), .val (.ref b220), .val (.int (own_ex p4 z4 z6 z7 p2 z2))] [(.ref b220), (.ref b199)])) := by
      intro t kt
      refine prej241 t ?_
      refine XS.istore Xj241.here hx rfl (hb hby at_139) rfl (l' := #[.val (.int p1), .val (.int p2), .val (.int z2), .val (.int p4), .val (.int z4), .val (.int p6), .val (.int z6), .val (.int z7), .val (.int z8), .val (.int z9), .val (.ref s1), .val (.ref s2), .val (.ref b199), .val (.int (p6 &&& (3 : Int32))), .val (.ref b220), .val (.int (own_ex p4 z4 z6 z7 p2 z2))]) rfl ?_
      refine XS.aload Xj241.here hx rfl (hb hby at_141) rfl rfl ?_
      refine XS.aload Xj241.here hx rfl (hb hby at_143) rfl rfl ?_
      exact kt
    have f259 := (((O0.keep Kj17 all0).keep Kj97 all0).ext E199)
    have f260 : Old Z n0 T235.heap := (((f259.keep K212 (allS ge205 all0)).ext E220).keep K235 (allS ge228 all0))
    have f261 : Exa Z T235.heap b199 "com/example/horne/horne/term/Indicator" := ((g213.ext E220).keep K235)
    have f262 : Fld Z T235.heap b199 "com/example/horne/horne/term/Indicator" "name" "Ljava/lang/String;" (.ref s1) := ((g214.ext E220).keep K235 (ninS ne227 nin0))
    have f263 : Fld Z T235.heap b199 "com/example/horne/horne/term/Indicator" "arity" "I" (.int p4) := ((g215.ext E220).keep K235 (ninS ne227 nin0))
    have f264 : own_StrL Z T235.heap s1 sv1 sk1 (own_csOf z6 p2) := (own_StrL.keep (own_StrL.ext f221 E220) K235 (ninS ne222 nin0) (ninS ne223 nin0))
    have f265 : own_StrL Z T235.heap s2 sv2 sk2 (own_csOf z7 z2) := (own_StrL.keep (own_StrL.ext f224 E220) K235 (ninS ne225 nin0) (ninS ne226 nin0))
    obtain ⟨cq266, kq266, qa266, qb266, qc266⟩ := isOf hZ ej241 f261
    obtain ⟨_, _, ⟨T266, L266, k266, n266⟩, -, X266, ⟨Lc266, hQ266, l266, y266, z266⟩, st266⟩ := Xj241.virtualBack hx (y := own_m2) (z := own_m2) hown (mvT hZ (hw _ (own_w 60 rfl))) (mvT hZ (hw _ (own_w 61 rfl))) (notFace_of_selects (args := #[]) (mvT hZ (hw _ (own_w 63 rfl)))) (mvT hZ (hw _ (own_w 63 rfl))) (mvT hZ (hw _ (own_w 62 rfl))) (by decide) (backOf (W := 0) (rmieq l Z a0 hw [] b199 b220 p4 z4 s1 s2 wC sv1 sk1 (own_csOf z6 p2) sv2 sk2 (own_csOf z7 z2) T235.heap n0 zs239 f260 qC f261 f262 f263 g236 g237 g238 f264 f265 ne194 (own_S3of _ _) (own_S3of _ _)) hZ (hw _ (own_w 64 rfl)) (hw _ (own_w 28 rfl)) (by decide) (by decide)) qa266 qc266 (g := (mkF m 145 #[.val (.int p1), .val (.int p2), .val (.int z2), .val (.int p4), .val (.int z4), .val (.int p6), .val (.int z6), .val (.int z7), .val (.int z8), .val (.int z9), .val (.ref s1), .val (.ref s2), .val (.ref b199), .val (.int (p6 &&& (3 : Int32))), .val (.ref b220), .val (.int (own_ex p4 z4 z6 z7 p2 z2))] [(.ref b220), (.ref b199)])) rfl (by rw [hml]; rfl) (Steps.refl _) (argsL := [(.ref b220)]) (rest := []) (lenOf pd_9 rfl) rfl (by show 2 * 0 + _ ≤ _; exact Nat.le_of_eq rfl) (hb hby at_145) (fun _ _ => ⟨rfl, ej241, (by decide : 14 + 0 ≤ _), (by decide : 64 + 0 ≤ _)⟩)
    dsimp only [Pt.U, Pt.locs, Pt.cells, Pt.slots] at X266 l266 y266 z266 st266 hQ266
    subst l266 y266 z266
    obtain ⟨rfl, Nq266, eq266⟩ := hQ266
    have N266 := Fr.app Nj241 Nq266
    have pre267 : own_Go p e below S0 (T266.setTop (mkF m 158 #[.val (.int p1), .val (.int p2), .val (.int z2), .val (.int p4), .val (.int z4), .val (.int p6), .val (.int z6), .val (.int z7), .val (.int z8), .val (.int z9), .val (.ref s1), .val (.ref s2), .val (.ref b199), .val (.int (p6 &&& (3 : Int32))), .val (.ref b220), .val (.int (own_ex p4 z4 z6 z7 p2 z2))] [(.int 1)])) := by
      intro t kt
      refine pre258 t ?_
      refine st266.trans ?_
      show Steps p.tables e below (T266.setTop (mkF m 148 #[.val (.int p1), .val (.int p2), .val (.int z2), .val (.int p4), .val (.int z4), .val (.int p6), .val (.int z6), .val (.int z7), .val (.int z8), .val (.int z9), .val (.ref s1), .val (.ref s2), .val (.ref b199), .val (.int (p6 &&& (3 : Int32))), .val (.ref b220), .val (.int (own_ex p4 z4 z6 z7 p2 z2))] [(.int (own_ieq p4 z4 (own_csOf z6 p2) (own_csOf z7 z2)))])) _
      refine XS.iload X266.here hx rfl (hb hby at_148) rfl ?_
      refine XS.icmpNo X266.here hx rfl (hb hby at_150) rfl (teq (own_law p4 z4 z6 z7 p2 z2 pj13 pj14)).2 ?_
      refine XS.iconst X266.here hx rfl (hb hby at_153) ?_
      show Steps p.tables e below (T266.setTop (mkF m 154 #[.val (.int p1), .val (.int p2), .val (.int z2), .val (.int p4), .val (.int z4), .val (.int p6), .val (.int z6), .val (.int z7), .val (.int z8), .val (.int z9), .val (.ref s1), .val (.ref s2), .val (.ref b199), .val (.int (p6 &&& (3 : Int32))), .val (.ref b220), .val (.int (own_ex p4 z4 z6 z7 p2 z2))] [(.int 1)])) _
      refine XS.goto X266.here hx rfl (pc0 := 154) (pc' := 158) rfl (hb hby at_154) (by decide) (by decide) ?_
      exact kt
    obtain ⟨fs, hr, hrun, hended, hRW⟩ := Stand.leaveW (s := s) (vm₁ := T235.vm) X266 hSf235 (by rw [eq266]; exact (Nat.le_refl _)) (v := some (.int 1)) (fun h => by rw [Bd.returns] at h; cases h)
    refine ⟨_, _, fin _ (pre267 _ ?_), hrun, hended, _, _, rfl, ?_, own_wideMono hRW (by decide) (by decide)⟩
    · exact retN X266 hx (t := .boolean) Bd.returns (by simp) (hb hby at_158) hr
    · show Q0 Z p1 p2 p3 p4 p5 p6 wC h0 n0 _ T266.heap _
      rw [eq266]
      exact ⟨rfl, N266⟩
  · have pre269 : own_Go p e below S0 (T212.setTop (mkF m 162 #[.val (.int p1), .val (.int p2), .val (.int z2), .val (.int p4), .val (.int z4), .val (.int p6), .val (.int z6), .val (.int z7), .val (.int z8), .val (.int z9), .val (.ref s1), .val (.ref s2), .val (.ref b199), .val (.int (p6 &&& (3 : Int32))), .unset, .unset] [(.int 1), (.int (p6 &&& (3 : Int32)))])) := by
      intro t kt
      refine pre218 t ?_
      refine XS.ifYes X212.here hx rfl (pc0 := 95) (pc' := 159) rfl (hb hby at_95) rfl ((if0 _ _).trans (feq hc217).2) (by decide) (by decide) ?_
      refine XS.iload X212.here hx rfl (hb hby at_159) rfl ?_
      refine XS.iconst X212.here hx rfl (hb hby at_161) ?_
      exact kt
    by_cases hc268 : (p6 &&& (3 : Int32)) = (1 : Int32)
    · have pre270 : own_Go p e below S0 (T212.setTop (mkF m 169 #[.val (.int p1), .val (.int p2), .val (.int z2), .val (.int p4), .val (.int z4), .val (.int p6), .val (.int z6), .val (.int z7), .val (.int z8), .val (.int z9), .val (.ref s1), .val (.ref s2), .val (.ref b199), .val (.int (p6 &&& (3 : Int32))), .unset, .unset] [(.ref b199), (.ref b199)])) := by
        intro t kt
        refine pre269 t ?_
        refine XS.icmpNo X212.here hx rfl (hb hby at_162) rfl (teq hc268).2 ?_
        refine XS.aload X212.here hx rfl (hb hby at_165) rfl rfl ?_
        refine XS.aload X212.here hx rfl (hb hby at_167) rfl rfl ?_
        exact kt
      have f271 : Exa Z T212.heap s1 "java/lang/String" := (f211.keep K212)
      obtain ⟨cq272, kq272, qa272, qb272, qc272⟩ := isOf hZ rfl g213
      obtain ⟨_, _, ⟨T272, L272, k272, n272⟩, -, X272, ⟨Lc272, hQ272, l272, y272, z272⟩, st272⟩ := X212.virtualBack hx (y := own_m2) (z := own_m2) hown (mvT hZ (hw _ (own_w 60 rfl))) (mvT hZ (hw _ (own_w 61 rfl))) (notFace_of_selects (args := #[]) (mvT hZ (hw _ (own_w 63 rfl)))) (mvT hZ (hw _ (own_w 63 rfl))) (mvT hZ (hw _ (own_w 62 rfl))) (by decide) (backOf (W := 0) (rmieqS l Z a0 hw [] b199 p4 s1 T212.heap n0 zs216 g213 g214 g215 f271) hZ (hw _ (own_w 64 rfl)) (hw _ (own_w 28 rfl)) (by decide) (by decide)) qa272 qc272 (g := (mkF m 169 #[.val (.int p1), .val (.int p2), .val (.int z2), .val (.int p4), .val (.int z4), .val (.int p6), .val (.int z6), .val (.int z7), .val (.int z8), .val (.int z9), .val (.ref s1), .val (.ref s2), .val (.ref b199), .val (.int (p6 &&& (3 : Int32))), .unset, .unset] [(.ref b199), (.ref b199)])) rfl (by rw [hml]; rfl) (Steps.refl _) (argsL := [(.ref b199)]) (rest := []) (lenOf pd_9 rfl) rfl (by show 2 * 0 + _ ≤ _; exact Nat.le_of_eq rfl) (hb hby at_169) (fun _ _ => ⟨rfl, rfl, (by decide : 11 + 0 ≤ _), (by decide : 42 + 0 ≤ _)⟩)
      dsimp only [Pt.U, Pt.locs, Pt.cells, Pt.slots] at X272 l272 y272 z272 st272 hQ272
      subst l272 y272 z272
      obtain ⟨rfl, Nq272, eq272⟩ := hQ272
      have N272 := Fr.app N212 Nq272
      have pre273 : own_Go p e below S0 (T272.setTop (mkF m 172 #[.val (.int p1), .val (.int p2), .val (.int z2), .val (.int p4), .val (.int z4), .val (.int p6), .val (.int z6), .val (.int z7), .val (.int z8), .val (.int z9), .val (.ref s1), .val (.ref s2), .val (.ref b199), .val (.int (p6 &&& (3 : Int32))), .unset, .unset] [(.int 1)])) := by
        intro t kt
        refine pre270 t ?_
        refine st272.trans ?_
        show Steps p.tables e below (T272.setTop (mkF m 172 #[.val (.int p1), .val (.int p2), .val (.int z2), .val (.int p4), .val (.int z4), .val (.int p6), .val (.int z6), .val (.int z7), .val (.int z8), .val (.int z9), .val (.ref s1), .val (.ref s2), .val (.ref b199), .val (.int (p6 &&& (3 : Int32))), .unset, .unset] [(.int 1)])) _
        exact kt
      obtain ⟨fs, hr, hrun, hended, hRW⟩ := Stand.leaveW (s := s) (vm₁ := T212.vm) X272 hSf212 (by rw [eq272]; exact (Nat.le_refl _)) (v := some (.int 1)) (fun h => by rw [Bd.returns] at h; cases h)
      refine ⟨_, _, fin _ (pre273 _ ?_), hrun, hended, _, _, rfl, ?_, own_wideMono hRW (by decide) (by decide)⟩
      · exact retN X272 hx (t := .boolean) Bd.returns (by simp) (hb hby at_172) hr
      · show Q0 Z p1 p2 p3 p4 p5 p6 wC h0 n0 _ T272.heap _
        rw [eq272]
        exact ⟨rfl, N272⟩
    · have pre275 : own_Go p e below S0 (T212.setTop (mkF m 176 #[.val (.int p1), .val (.int p2), .val (.int z2), .val (.int p4), .val (.int z4), .val (.int p6), .val (.int z6), .val (.int z7), .val (.int z8), .val (.int z9), .val (.ref s1), .val (.ref s2), .val (.ref b199), .val (.int (p6 &&& (3 : Int32))), .unset, .unset] [(.int 2), (.int (p6 &&& (3 : Int32)))])) := by
        intro t kt
        refine pre269 t ?_
        refine XS.icmpYes X212.here hx rfl (pc0 := 162) (pc' := 173) rfl (hb hby at_162) rfl (feq hc268).2 (by decide) (by decide) ?_
        refine XS.iload X212.here hx rfl (hb hby at_173) rfl ?_
        refine XS.iconst X212.here hx rfl (hb hby at_175) ?_
        exact kt
      by_cases hc274 : (p6 &&& (3 : Int32)) = (2 : Int32)
      · have pre276 : own_Go p e below S0 (T212.setTop (mkF m 186 #[.val (.int p1), .val (.int p2), .val (.int z2), .val (.int p4), .val (.int z4), .val (.int p6), .val (.int z6), .val (.int z7), .val (.int z8), .val (.int z9), .val (.ref s1), .val (.ref s2), .val (.ref b199), .val (.int (p6 &&& (3 : Int32))), .val .null, .unset] [.null, (.ref b199)])) := by
          intro t kt
          refine pre275 t ?_
          refine XS.icmpNo X212.here hx rfl (hb hby at_176) rfl (teq hc274).2 ?_
          refine XS.aconstNull X212.here hx rfl (hb hby at_179) ?_
          refine XS.astore X212.here hx rfl (hb hby at_180) rfl rfl (l' := #[.val (.int p1), .val (.int p2), .val (.int z2), .val (.int p4), .val (.int z4), .val (.int p6), .val (.int z6), .val (.int z7), .val (.int z8), .val (.int z9), .val (.ref s1), .val (.ref s2), .val (.ref b199), .val (.int (p6 &&& (3 : Int32))), .val .null, .unset]) rfl ?_
          refine XS.aload X212.here hx rfl (hb hby at_182) rfl rfl ?_
          show Steps p.tables e below (T212.setTop (mkF m 184 #[.val (.int p1), .val (.int p2), .val (.int z2), .val (.int p4), .val (.int z4), .val (.int p6), .val (.int z6), .val (.int z7), .val (.int z8), .val (.int z9), .val (.ref s1), .val (.ref s2), .val (.ref b199), .val (.int (p6 &&& (3 : Int32))), .val .null, .unset] [(.ref b199)])) _
          refine XS.aload X212.here hx rfl (hb hby at_184) rfl rfl ?_
          exact kt
        obtain ⟨cq277, kq277, qa277, qb277, qc277⟩ := isOf hZ rfl g213
        obtain ⟨_, _, ⟨T277, L277, k277, n277⟩, -, X277, ⟨Lc277, hQ277, l277, y277, z277⟩, st277⟩ := X212.virtualBack hx (y := own_m2) (z := own_m2) hown (mvT hZ (hw _ (own_w 60 rfl))) (mvT hZ (hw _ (own_w 61 rfl))) (notFace_of_selects (args := #[]) (mvT hZ (hw _ (own_w 63 rfl)))) (mvT hZ (hw _ (own_w 63 rfl))) (mvT hZ (hw _ (own_w 62 rfl))) (by decide) (backOf (W := 0) (rmieqN l Z a0 hw [] b199 T212.heap n0 zs216 ) hZ (hw _ (own_w 64 rfl)) (hw _ (own_w 28 rfl)) (by decide) (by decide)) qa277 qc277 (g := (mkF m 186 #[.val (.int p1), .val (.int p2), .val (.int z2), .val (.int p4), .val (.int z4), .val (.int p6), .val (.int z6), .val (.int z7), .val (.int z8), .val (.int z9), .val (.ref s1), .val (.ref s2), .val (.ref b199), .val (.int (p6 &&& (3 : Int32))), .val .null, .unset] [.null, (.ref b199)])) rfl (by rw [hml]; rfl) (Steps.refl _) (argsL := [.null]) (rest := []) (lenOf pd_9 rfl) rfl (by show 2 * 0 + _ ≤ _; exact Nat.le_of_eq rfl) (hb hby at_186) (fun _ _ => ⟨rfl, rfl, (by decide : 11 + 0 ≤ _), (by decide : 42 + 0 ≤ _)⟩)
        dsimp only [Pt.U, Pt.locs, Pt.cells, Pt.slots] at X277 l277 y277 z277 st277 hQ277
        subst l277 y277 z277
        obtain ⟨rfl, Nq277, eq277⟩ := hQ277
        have N277 := Fr.app N212 Nq277
        have pre278 : own_Go p e below S0 (T277.setTop (mkF m 197 #[.val (.int p1), .val (.int p2), .val (.int z2), .val (.int p4), .val (.int z4), .val (.int p6), .val (.int z6), .val (.int z7), .val (.int z8), .val (.int z9), .val (.ref s1), .val (.ref s2), .val (.ref b199), .val (.int (p6 &&& (3 : Int32))), .val .null, .unset] [(.int 1)])) := by
          intro t kt
          refine pre276 t ?_
          refine st277.trans ?_
          show Steps p.tables e below (T277.setTop (mkF m 189 #[.val (.int p1), .val (.int p2), .val (.int z2), .val (.int p4), .val (.int z4), .val (.int p6), .val (.int z6), .val (.int z7), .val (.int z8), .val (.int z9), .val (.ref s1), .val (.ref s2), .val (.ref b199), .val (.int (p6 &&& (3 : Int32))), .val .null, .unset] [(.int 0)])) _
          refine XS.ifNo X277.here hx rfl (hb hby at_189) rfl ((if0 _ _).trans (teq (by decide : (0 : Int32) = (0 : Int32))).2) ?_
          refine XS.iconst X277.here hx rfl (hb hby at_192) ?_
          refine XS.goto X277.here hx rfl (pc0 := 193) (pc' := 197) rfl (hb hby at_193) (by decide) (by decide) ?_
          show Steps p.tables e below (T277.setTop (mkF m 197 #[.val (.int p1), .val (.int p2), .val (.int z2), .val (.int p4), .val (.int z4), .val (.int p6), .val (.int z6), .val (.int z7), .val (.int z8), .val (.int z9), .val (.ref s1), .val (.ref s2), .val (.ref b199), .val (.int (p6 &&& (3 : Int32))), .val .null, .unset] [(.int 1)])) _
          exact kt
        obtain ⟨fs, hr, hrun, hended, hRW⟩ := Stand.leaveW (s := s) (vm₁ := T212.vm) X277 hSf212 (by rw [eq277]; exact (Nat.le_refl _)) (v := some (.int 1)) (fun h => by rw [Bd.returns] at h; cases h)
        refine ⟨_, _, fin _ (pre278 _ ?_), hrun, hended, _, _, rfl, ?_, own_wideMono hRW (by decide) (by decide)⟩
        · exact retN X277 hx (t := .boolean) Bd.returns (by simp) (hb hby at_197) hr
        · show Q0 Z p1 p2 p3 p4 p5 p6 wC h0 n0 _ T277.heap _
          rw [eq277]
          exact ⟨rfl, N277⟩
      · have pre279 : own_Go p e below S0 (T212.setTop (mkF m 198 #[.val (.int p1), .val (.int p2), .val (.int z2), .val (.int p4), .val (.int z4), .val (.int p6), .val (.int z6), .val (.int z7), .val (.int z8), .val (.int z9), .val (.ref s1), .val (.ref s2), .val (.ref b199), .val (.int (p6 &&& (3 : Int32))), .unset, .unset] [])) := by
          intro t kt
          refine pre275 t ?_
          refine XS.icmpYes X212.here hx rfl (pc0 := 176) (pc' := 198) rfl (hb hby at_176) rfl (feq hc274).2 (by decide) (by decide) ?_
          exact kt
        obtain ⟨T280, h280, X280, e280, E280, A280, D280, -, st280⟩ := newO X212 hx hZ hown (hw _ (own_w 43 rfl)) (hw _ (own_w 44 rfl)) (hw _ (own_w 45 rfl)) rfl (g := (mkF m 198 #[.val (.int p1), .val (.int p2), .val (.int z2), .val (.int p4), .val (.int z4), .val (.int p6), .val (.int z6), .val (.int z7), .val (.int z8), .val (.int z9), .val (.ref s1), .val (.ref s2), .val (.ref b199), .val (.int (p6 &&& (3 : Int32))), .unset, .unset] [])) rfl (hb hby at_198) (by decide) (by decide)
        obtain ⟨b280, g280⟩ : ∃ z, z = T212.heap.size := ⟨_, rfl⟩
        rw [← g280] at A280 D280 st280
        have f281 : own_StrL Z T212.heap s1 sv1 sk1 (own_csOf z6 p2) := (own_StrL.keep (own_StrL.ext f200 E199) K212 (ninS ne201 nin0) (ninS ne202 nin0))
        have ne282 : s1 ≠ b280 := Nat.ne_of_lt (Nat.lt_of_lt_of_le (own_StrL.lt0 f281) (Nat.le_of_eq g280.symm))
        have ne283 : sv1 ≠ b280 := Nat.ne_of_lt (Nat.lt_of_lt_of_le (own_StrL.lt1 f281) (Nat.le_of_eq g280.symm))
        have f284 : own_StrL Z T212.heap s2 sv2 sk2 (own_csOf z7 z2) := (own_StrL.keep (own_StrL.ext qj193 E199) K212 (ninS ne203 nin0) (ninS ne204 nin0))
        have ne285 : s2 ≠ b280 := Nat.ne_of_lt (Nat.lt_of_lt_of_le (own_StrL.lt0 f284) (Nat.le_of_eq g280.symm))
        have ne286 : sv2 ≠ b280 := Nat.ne_of_lt (Nat.lt_of_lt_of_le (own_StrL.lt1 f284) (Nat.le_of_eq g280.symm))
        have ne287 : b199 ≠ b280 := Nat.ne_of_lt (Nat.lt_of_lt_of_le g213.lt (Nat.le_of_eq g280.symm))
        have ge288 : n0 ≤ b280 := Nat.le_trans zs216 (Nat.le_of_eq g280.symm)
        have zs289 : n0 ≤ h280.size := Nat.le_trans zs216 E280.1
        have hk290 : _ ≤ h280.size := Nat.le_trans (Nat.le_refl _) E280.1
        have fd291 : Fld Z h280 b280 "com/example/horne/horne/term/Atom" "name" "Ljava/lang/String;" .null := D280 (Or.inr (hw _ (own_w 59 rfl))) (ty := (.object "java/lang/String")) (by decide)
        have pre292 : own_Go p e below S0 (T280.setTop (mkF m 204 #[.val (.int p1), .val (.int p2), .val (.int z2), .val (.int p4), .val (.int z4), .val (.int p6), .val (.int z6), .val (.int z7), .val (.int z8), .val (.int z9), .val (.ref s1), .val (.ref s2), .val (.ref b199), .val (.int (p6 &&& (3 : Int32))), .unset, .unset] [(.ref s1), (.ref b280), (.ref b280)])) := by
          intro t kt
          refine pre279 t ?_
          refine st280 _ ?_
          refine XS.dup X280.here hx rfl (hb hby at_201) rfl rfl ?_
          refine XS.aload X280.here hx rfl (hb hby at_202) rfl rfl ?_
          exact kt
        have f293 : Exa Z h280 s1 "java/lang/String" := ((f211.keep K212).ext E280)
        obtain ⟨_, _, ⟨T294, L294, k294, n294⟩, -, X294, hSn294, hgn294, ⟨Lc294, hQ294, l294, y294, z294⟩, st294⟩ := X280.specialBackS hx (y := own_m0) rfl hown (mvT hZ (hw _ (own_w 46 rfl))) (mvT hZ (hw _ (own_w 47 rfl))) (mvT hZ (hw _ (own_w 48 rfl))) (by decide) (backOfS (W := 1) (rm7 l Z a0 hw [] b280 s1 h280 n0 zs289 A280 f293 fd291 ge288) hZ (hw _ (own_w 48 rfl)) (hw _ (own_w 45 rfl)) (by decide) (by decide)) (g := (mkF m 204 #[.val (.int p1), .val (.int p2), .val (.int z2), .val (.int p4), .val (.int z4), .val (.int p6), .val (.int z6), .val (.int z7), .val (.int z8), .val (.int z9), .val (.ref s1), .val (.ref s2), .val (.ref b199), .val (.int (p6 &&& (3 : Int32))), .unset, .unset] [(.ref s1), (.ref b280), (.ref b280)])) rfl (by rw [hml]; rfl) (Steps.refl _) (a := b280) (argsL := [(.ref s1)]) (rest := [(.ref b280)]) (lenOf pd_13 rfl) rfl (by show 2 * 0 + _ ≤ _; exact Nat.le_of_eq rfl) (hb hby at_204) (fun _ _ => ⟨rfl, e280, (by decide : 12 + 2 ≤ _), (by decide : 43 + 20 ≤ _)⟩)
        dsimp only [Pt.U, Pt.locs, Pt.cells, Pt.slots] at X294 l294 y294 z294 st294 hQ294 hSn294 hgn294
        subst l294 y294 z294
        have hown := own_fc hown hSn294.1
        have hZ : Z.Warmed39 (s.setVm T294.vm).vm := State.Warmed39.trans (t := (s.setVm T212.vm)) hZ hSn294.1
        have hSf294 := foldS (s := s) (vm0 := T212.vm) hSf212 (by rw [e280]; exact hk290) hSn294 hgn294
        obtain ⟨rfl, Nq294, K294, g295⟩ := hQ294
        have N294 := Fr.app N212 Nq294
        have zs296 : n0 ≤ T294.heap.size := Nat.le_trans zs289 K294.1
        have pre297 : own_Go p e below S0 (T294.setTop (mkF m 213 #[.val (.int p1), .val (.int p2), .val (.int z2), .val (.int p4), .val (.int z4), .val (.int p6), .val (.int z6), .val (.int z7), .val (.int z8), .val (.int z9), .val (.ref s1), .val (.ref s2), .val (.ref b199), .val (.int (p6 &&& (3 : Int32))), .val (.ref b280), .unset] [(.ref b280), (.ref b199)])) := by
          intro t kt
          refine pre292 t ?_
          refine st294.trans ?_
          show Steps p.tables e below (T294.setTop (mkF m 207 #[.val (.int p1), .val (.int p2), .val (.int z2), .val (.int p4), .val (.int z4), .val (.int p6), .val (.int z6), .val (.int z7), .val (.int z8), .val (.int z9), .val (.ref s1), .val (.ref s2), .val (.ref b199), .val (.int (p6 &&& (3 : Int32))), .unset, .unset] [(.ref b280)])) _
          refine XS.astore X294.here hx rfl (hb hby at_207) rfl rfl (l' := #[.val (.int p1), .val (.int p2), .val (.int z2), .val (.int p4), .val (.int z4), .val (.int p6), .val (.int z6), .val (.int z7), .val (.int z8), .val (.int z9), .val (.ref s1), .val (.ref s2), .val (.ref b199), .val (.int (p6 &&& (3 : Int32))), .val (.ref b280), .unset]) rfl ?_
          refine XS.aload X294.here hx rfl (hb hby at_209) rfl rfl ?_
          refine XS.aload X294.here hx rfl (hb hby at_211) rfl rfl ?_
          show Steps p.tables e below (T294.setTop (mkF m 213 #[.val (.int p1), .val (.int p2), .val (.int z2), .val (.int p4), .val (.int z4), .val (.int p6), .val (.int z6), .val (.int z7), .val (.int z8), .val (.int z9), .val (.ref s1), .val (.ref s2), .val (.ref b199), .val (.int (p6 &&& (3 : Int32))), .val (.ref b280), .unset] [(.ref b280), (.ref b199)])) _
          exact kt
        have f299 : Exa Z T294.heap b199 "com/example/horne/horne/term/Indicator" := ((g213.ext E280).keep K294)
        obtain ⟨cq298, kq298, qa298, qb298, qc298⟩ := isOf hZ rfl f299
        obtain ⟨_, _, ⟨T298, L298, k298, n298⟩, -, X298, ⟨Lc298, hQ298, l298, y298, z298⟩, st298⟩ := X294.virtualBack hx (y := own_m2) (z := own_m2) hown (mvT hZ (hw _ (own_w 60 rfl))) (mvT hZ (hw _ (own_w 61 rfl))) (notFace_of_selects (args := #[]) (mvT hZ (hw _ (own_w 63 rfl)))) (mvT hZ (hw _ (own_w 63 rfl))) (mvT hZ (hw _ (own_w 62 rfl))) (by decide) (backOf (W := 0) (rmieqA l Z a0 hw [] b199 b280 T294.heap n0 zs296 g295) hZ (hw _ (own_w 64 rfl)) (hw _ (own_w 28 rfl)) (by decide) (by decide)) qa298 qc298 (g := (mkF m 213 #[.val (.int p1), .val (.int p2), .val (.int z2), .val (.int p4), .val (.int z4), .val (.int p6), .val (.int z6), .val (.int z7), .val (.int z8), .val (.int z9), .val (.ref s1), .val (.ref s2), .val (.ref b199), .val (.int (p6 &&& (3 : Int32))), .val (.ref b280), .unset] [(.ref b280), (.ref b199)])) rfl (by rw [hml]; rfl) (Steps.refl _) (argsL := [(.ref b280)]) (rest := []) (lenOf pd_9 rfl) rfl (by show 2 * 0 + _ ≤ _; exact Nat.le_of_eq rfl) (hb hby at_213) (fun _ _ => ⟨rfl, rfl, (by decide : 14 + 0 ≤ _), (by decide : 63 + 0 ≤ _)⟩)
        dsimp only [Pt.U, Pt.locs, Pt.cells, Pt.slots] at X298 l298 y298 z298 st298 hQ298
        subst l298 y298 z298
        obtain ⟨rfl, Nq298, eq298⟩ := hQ298
        have N298 := Fr.app N294 Nq298
        have pre300 : own_Go p e below S0 (T298.setTop (mkF m 224 #[.val (.int p1), .val (.int p2), .val (.int z2), .val (.int p4), .val (.int z4), .val (.int p6), .val (.int z6), .val (.int z7), .val (.int z8), .val (.int z9), .val (.ref s1), .val (.ref s2), .val (.ref b199), .val (.int (p6 &&& (3 : Int32))), .val (.ref b280), .unset] [(.int 1)])) := by
          intro t kt
          refine pre297 t ?_
          refine st298.trans ?_
          show Steps p.tables e below (T298.setTop (mkF m 216 #[.val (.int p1), .val (.int p2), .val (.int z2), .val (.int p4), .val (.int z4), .val (.int p6), .val (.int z6), .val (.int z7), .val (.int z8), .val (.int z9), .val (.ref s1), .val (.ref s2), .val (.ref b199), .val (.int (p6 &&& (3 : Int32))), .val (.ref b280), .unset] [(.int 0)])) _
          refine XS.ifNo X298.here hx rfl (hb hby at_216) rfl ((if0 _ _).trans (teq (by decide : (0 : Int32) = (0 : Int32))).2) ?_
          refine XS.iconst X298.here hx rfl (hb hby at_219) ?_
          refine XS.goto X298.here hx rfl (pc0 := 220) (pc' := 224) rfl (hb hby at_220) (by decide) (by decide) ?_
          show Steps p.tables e below (T298.setTop (mkF m 224 #[.val (.int p1), .val (.int p2), .val (.int z2), .val (.int p4), .val (.int z4), .val (.int p6), .val (.int z6), .val (.int z7), .val (.int z8), .val (.int z9), .val (.ref s1), .val (.ref s2), .val (.ref b199), .val (.int (p6 &&& (3 : Int32))), .val (.ref b280), .unset] [(.int 1)])) _
          exact kt
        obtain ⟨fs, hr, hrun, hended, hRW⟩ := Stand.leaveW (s := s) (vm₁ := T294.vm) X298 hSf294 (by rw [eq298]; exact (Nat.le_refl _)) (v := some (.int 1)) (fun h => by rw [Bd.returns] at h; cases h)
        refine ⟨_, _, fin _ (pre300 _ ?_), hrun, hended, _, _, rfl, ?_, own_wideMono hRW (by decide) (by decide)⟩
        · exact retN X298 hx (t := .boolean) Bd.returns (by simp) (hb hby at_224) hr
        · show Q0 Z p1 p2 p3 p4 p5 p6 wC h0 n0 _ T298.heap _
          rw [eq298]
          exact ⟨rfl, N298⟩

set_option maxRecDepth 65536 in
set_option maxHeartbeats 40000000 in
theorem comes_1 {Post : Tables → Env → Array Value → State → Outcome → State → Prop} (hpost : ∀ tb e args s v u, (limb_1_1.after args s (.returned v) u = true ∧ limb_1_2.after args s (.returned v) u = true ∧ True) → ReturnedEndW s (.returned v) u (Jvm.fieldLocs frame_1_writes args s ++ Jvm.arrayLocs frame_1_arrays args s ++ Jvm.staticLocs frame_1_statics s) 32 3200 → Post tb e args s (.returned v) u) :
    ArmFor flags0 classFile x code maxLocals ret World_1 tables_1 room_1 Calls_1 rest_1 Pre_1 Post := by
  intro l hfl _ _ p e ha hc hk s m args below hf hA hF happ hP
  obtain ⟨hcalls, hrest, hpre⟩ := hP
  obtain ⟨-, -, -, hnamed, -, -, -, hat⟩ := (Spec.applies_iff hf).mp happ
  obtain ⟨hg, hn⟩ := and_e (Cond.before_iff.mp (show (Jvm.Cond.and given_1 narrow_1).before args s = true from hpre))
  obtain ⟨hcount, hg0⟩ := and_e hg
  obtain ⟨ga0, hg1⟩ := and_e hg0
  obtain ⟨ga1, hg2⟩ := and_e hg1
  obtain ⟨ga2, hg3⟩ := and_e hg2
  obtain ⟨ga3, hg4⟩ := and_e hg3
  obtain ⟨ga4, hg5⟩ := and_e hg4
  have ga5 := hg5
  obtain ⟨w0, w1, w2, w3, w4, w5, rfl⟩ : ∃ w0 w1 w2 w3 w4 w5 : Value, args = #[w0, w1, w2, w3, w4, w5] := by
    have hs : args.size = 6 := by simpa [Cond.value, given_1] using hcount
    obtain ⟨L⟩ := args
    match L, hs with
    | [w0, w1, w2, w3, w4, w5], _ => exact ⟨w0, w1, w2, w3, w4, w5, rfl⟩
  have hw := fun d (hd : d ∈ tables_1) => atoms_spec (ws := Jvm.Cond.code x code maxLocals ret :: tables_1) hat d (List.mem_cons_of_mem _ hd)
  have hfit : Fit s := fun {y c} hc i hi => by
    obtain ⟨ha, rfl⟩ := Array.getElem?_eq_some_iff.mp hc
    have q := List.all_eq_true.mp ((Array.all_eq_true_iff_forall_mem.mp hF) _ (Array.getElem_mem ha)) i (List.mem_range.mpr hi)
    simpa [Array.getElem?_eq_getElem hi] using q
  obtain ⟨hsets, hown0⟩ := atoms_of _ (rest_1_c_eq ▸ (show rest_1_c.before _ s = true from hrest))
  obtain ⟨i0, ei0⟩ := is_v ga0
  obtain rfl : w0 = (.int i0) := Option.some.inj ei0
  obtain ⟨i1, ei1⟩ := is_v ga1
  obtain rfl : w1 = (.int i1) := Option.some.inj ei1
  obtain ⟨i2, ei2⟩ := is_v ga2
  obtain rfl : w2 = (.int i2) := Option.some.inj ei2
  obtain ⟨i3, ei3⟩ := is_v ga3
  obtain rfl : w3 = (.int i3) := Option.some.inj ei3
  obtain ⟨i4, ei4⟩ := is_v ga4
  obtain rfl : w4 = (.int i4) := Option.some.inj ei4
  obtain ⟨i5, ei5⟩ := is_v ga5
  obtain rfl : w5 = (.int i5) := Option.some.inj ei5
  obtain ⟨wC, evC⟩ := is_v (Cond.before_iff.mp (hsets _ (List.mem_of_getElem? (i := 1) rfl)))
  have SC := Sta.start evC (Or.inl (hsets _ (List.mem_of_getElem? (i := 0) rfl)))
  have hC : ¬ wC = (0 : Int32) := fun q => by
    have z := not_v (Cond.before_iff.mp (hsets _ (List.mem_of_getElem? (i := 2) rfl)))
    exact absurd ((eq_i evC (Term.int_eval 0) (by rw [q])).symm.trans z) (by decide)
  have hCH0 : CHv s own_EL s.vm s.heap := CHv.start (own_EW _ s hw) (fun q hq => hcalls.1 q (own_ELsub q hq)) (hsets _ (List.mem_of_getElem? (i := 2) rfl)) (hw _ (own_w 19 rfl)) (hw _ (own_w 6 rfl))
  obtain ⟨n, o, h1, h2, h3, _, L, rfl, ⟨rfl, N⟩, hq⟩ := rm0 l s _ hw tables_1 i0 i1 i2 i3 i4 i5 wC s.heap s.heap.size (Nat.le_refl _) (Old.start s) ⟨SC, hC⟩ p e ha hc hk s m _ below hf ((Spec.applies_iff_loose hf).mp happ).1 ⟨rfl, State.Warmed39.refl s, rfl, hCH0, all0⟩ trivial
  refine ⟨n, _, h1, h2, h3, hpost _ _ _ _ _ _ ⟨Cond.after_iff.mpr rfl, Cond.after_iff.mpr (eq_i res_at (Term.int_eval (1)) rfl), trivial⟩ ⟨hq.1, hq.2.1, hq.2.2.1, (hq.2.2.2.sift fun y hy => Or.inr (N y hy)).mono (by decide) (by decide)⟩⟩
theorem main_1_1 : Claimed_1_1 := comes_1 fun _ _ _ _ _ _ h hF => ⟨h.1, hF⟩
theorem main_1_2 : Claimed_1_2 := comes_1 fun _ _ _ _ _ _ h hF => ⟨h.2.1, hF⟩

end Jvm.Pilot.@@N@@
namespace Jvm.Pilot.@@N@@
open Jvm Jvm.ClassFile Sem Op Lib Jvm.Free Jvm.Stand Jvm.Pilot.@@N@@.Jvm.D
/-! MADE BY PROGRAM (witnessworld.py) out of the Statement's table words and the real class files: 23 classes; the members and pool entries that the words name. The judged class is class 1, her method 4. -/
namespace start1
open Jvm.ClassFile
def u (s : String) : CpInfo := .utf8 (stringToUtf16 s)
/-- a pool by its gaps: so many unusable entries, then the entry; so many at the end -/
def gap : Nat → List CpInfo → List CpInfo
  | 0, r => r
  | n + 1, r => .unusable :: gap n r
def poolList (es : List (Nat × CpInfo)) (last : Nat) : List CpInfo := es.foldr (fun e r => gap e.1 (e.2 :: r)) (gap last [])
def pool (es : List (Nat × CpInfo)) (last : Nat) : Array CpInfo := ⟨poolList es last⟩
def fileOf (pool : Array CpInfo) (this : Nat) (attrs : Array Attribute := #[]) (ms : Array MethodInfo := #[]) (fl : Nat := 33) (sup : Nat := 0) (ifs : Array Nat := #[]) (fds : Array FieldInfo := #[]) : ClassFile where
  minorVersion := 0
  majorVersion := 65
  constantPool := pool
  accessFlags := fl
  thisClass := this
  superClass := sup
  interfaces := ifs
  fields := fds
  methods := ms
  attributes := attrs
def plain (name : String) (sup : Option ClassId) : Class where
  name := name
  kind := .ordinary
  loader := none
  accessFlags := 33
  super := sup
  interfaces := #[]
  cf := none
  fields := #[]
  methods := #[]
  instanceTypes := #[]
  staticTypes := #[]
  resolved := #[]
  callSites := []
  init := .initialized
  statics := none
  mirror := none

def pool0 : Array CpInfo := pool [(5, u "<init>"), (0, u "()V"), (1, .class_ 10), (1, u "java/lang/Object")] 113

def k0c0 : Code := { maxStack := 0, maxLocals := 1, code := object_method_1_code, exceptionTable := #[], attributes := #[] }
def k0m0 : Method := { name := "<init>", desc := "()V", sig := { parameters := [], returnType := none }, accessFlags := 1, code := some k0c0 }
/-- java/lang/Object -/
def k0 : Class := { plain "java/lang/Object" none with
  accessFlags := 33
  interfaces := #[]
  cf := some (fileOf pool0 8 #[] #[{ accessFlags := 1, nameIndex := 5, descriptorIndex := 6, attributes := #[] }] 33 0 #[] #[])
  fields := #[]
  methods := #[k0m0]
  instanceTypes := #[]
  staticTypes := #[]
  resolved := Array.replicate 124 none
  statics := none }

def pool1 : Array CpInfo := pool [(2, .class_ 4), (1, u "java/lang/Object"), (0, u "<init>"), (0, u "()V"), (0, .methodref 8 9), (0, .class_ 10), (0, .nameAndType 11 12), (0, u "com/example/horne/horne/term/IndicatorEqualsPinLaw"), (0, u "ch"), (0, u "(II)C"), (0, .class_ 14), (0, u "java/lang/String"), (0, .methodref 13 16), (0, .nameAndType 5 17), (0, u "([C)V"), (0, .methodref 8 19), (0, .nameAndType 20 21), (0, u "str"), (0, u "(II)Ljava/lang/String;"), (0, .class_ 23), (0, u "com/example/horne/horne/term/Indicator"), (0, .methodref 22 25), (0, .nameAndType 5 26), (0, u "(Ljava/lang/String;I)V"), (0, .methodref 8 28), (0, .nameAndType 29 30), (0, u "sameChars"), (0, u "(III)Z"), (0, .methodref 22 32), (0, .nameAndType 33 34), (0, u "equals"), (0, u "(Ljava/lang/Object;)Z"), (0, .class_ 36), (0, u "com/example/horne/horne/term/Atom"), (0, .methodref 35 38), (0, .nameAndType 5 39), (0, u "(Ljava/lang/String;)V"), (5, u "law"), (0, u "(IIIIII)Z")] 2

def k1m0 : Method := { name := "<init>", desc := "()V", sig := { parameters := [], returnType := none }, accessFlags := 1, code := none }
def k1c1 : Code := { maxStack := 3, maxLocals := 2, code := method_2_code, exceptionTable := #[], attributes := #[] }
def k1m1 : Method := { name := "ch", desc := "(II)C", sig := { parameters := [.int, .int], returnType := some .char }, accessFlags := 10, code := some k1c1 }
def k1c2 : Code := { maxStack := 5, maxLocals := 3, code := method_3_code, exceptionTable := #[], attributes := #[] }
def k1m2 : Method := { name := "str", desc := "(II)Ljava/lang/String;", sig := { parameters := [.int, .int], returnType := some (.object "java/lang/String") }, accessFlags := 10, code := some k1c2 }
def k1c3 : Code := { maxStack := 3, maxLocals := 4, code := method_4_code, exceptionTable := #[], attributes := #[] }
def k1m3 : Method := { name := "sameChars", desc := "(III)Z", sig := { parameters := [.int, .int, .int], returnType := some .boolean }, accessFlags := 10, code := some k1c3 }
def k1c4 : Code := { maxStack := 4, maxLocals := 16, code := code, exceptionTable := #[], attributes := #[] }
def k1m4 : Method := { name := "law", desc := "(IIIIII)Z", sig := { parameters := [.int, .int, .int, .int, .int, .int], returnType := some .boolean }, accessFlags := 9, code := some k1c4 }
/-- com/example/horne/horne/term/IndicatorEqualsPinLaw -/
def k1 : Class := { plain "com/example/horne/horne/term/IndicatorEqualsPinLaw" (some 0) with
  accessFlags := 49
  interfaces := #[]
  cf := some (fileOf pool1 8 #[] #[{ accessFlags := 1, nameIndex := 5, descriptorIndex := 6, attributes := #[] }, { accessFlags := 10, nameIndex := 11, descriptorIndex := 12, attributes := #[] }, { accessFlags := 10, nameIndex := 20, descriptorIndex := 21, attributes := #[] }, { accessFlags := 10, nameIndex := 29, descriptorIndex := 30, attributes := #[] }, { accessFlags := 9, nameIndex := 45, descriptorIndex := 46, attributes := #[] }] 49 2 #[] #[])
  fields := #[]
  methods := #[k1m0, k1m1, k1m2, k1m3, k1m4]
  instanceTypes := #[]
  staticTypes := #[]
  resolved := Array.replicate 49 none
  statics := none }

def pool2 : Array CpInfo := pool [(1, .class_ 2), (0, u "java/io/Serializable"), (0, .class_ 4), (0, u "java/lang/Object")] 2

/-- java/io/Serializable -/
def k2 : Class := { plain "java/io/Serializable" (some 0) with
  accessFlags := 1537
  interfaces := #[]
  cf := some (fileOf pool2 1 #[] #[] 1537 3 #[] #[])
  fields := #[]
  methods := #[]
  instanceTypes := #[]
  staticTypes := #[]
  resolved := Array.replicate 7 none
  statics := none }

def pool3 : Array CpInfo := pool [(1, .class_ 2), (0, u "java/lang/Comparable"), (0, .class_ 4), (0, u "java/lang/Object")] 7

/-- java/lang/Comparable -/
def k3 : Class := { plain "java/lang/Comparable" (some 0) with
  accessFlags := 1537
  interfaces := #[]
  cf := some (fileOf pool3 1 #[] #[] 1537 3 #[] #[])
  fields := #[]
  methods := #[]
  instanceTypes := #[]
  staticTypes := #[]
  resolved := Array.replicate 12 none
  statics := none }

def pool4 : Array CpInfo := pool [(2, .class_ 4), (1, u "java/lang/CharSequence"), (42, .class_ 48), (0, u "java/lang/CharSequence$1CodePointIterator"), (10, .class_ 60), (0, u "java/lang/CharSequence$1CharIterator"), (5, .class_ 67), (0, u "java/lang/Object")] 63

/-- java/lang/CharSequence -/
def k4 : Class := { plain "java/lang/CharSequence" (some 0) with
  accessFlags := 1537
  interfaces := #[]
  cf := some (fileOf pool4 2 #[.nestMembers #[47, 59]] #[] 1537 66 #[] #[])
  fields := #[]
  methods := #[]
  instanceTypes := #[]
  staticTypes := #[]
  resolved := Array.replicate 131 none
  statics := none }

def pool5 : Array CpInfo := pool [(1, .class_ 2), (0, u "java/lang/constant/Constable"), (0, .class_ 4), (0, u "java/lang/Object")] 6

/-- java/lang/constant/Constable -/
def k5 : Class := { plain "java/lang/constant/Constable" (some 0) with
  accessFlags := 1537
  interfaces := #[]
  cf := some (fileOf pool5 1 #[] #[] 1537 3 #[] #[])
  fields := #[]
  methods := #[]
  instanceTypes := #[]
  staticTypes := #[]
  resolved := Array.replicate 11 none
  statics := none }

def pool6 : Array CpInfo := pool [(1, .class_ 2), (0, u "java/lang/constant/ConstantDesc"), (0, .class_ 4), (0, u "java/lang/Object")] 32

/-- java/lang/constant/ConstantDesc -/
def k6 : Class := { plain "java/lang/constant/ConstantDesc" (some 0) with
  accessFlags := 1537
  interfaces := #[]
  cf := some (fileOf pool6 1 #[] #[] 1537 3 #[] #[])
  fields := #[]
  methods := #[]
  instanceTypes := #[]
  staticTypes := #[]
  resolved := Array.replicate 37 none
  statics := none }

def pool7 : Array CpInfo := pool [(1, .methodref 2 3), (0, .class_ 4), (0, .nameAndType 5 6), (0, u "java/lang/Object"), (0, u "<init>"), (0, u "()V"), (0, .string 8), (0, u ""), (0, .fieldref 10 11), (0, .class_ 12), (0, .nameAndType 13 14), (0, u "java/lang/String"), (0, u "value"), (0, u "[B"), (0, .fieldref 10 16), (0, .nameAndType 17 18), (0, u "coder"), (0, u "B"), (2, u "hash"), (0, u "I"), (2, u "hashIsZero"), (0, u "Z"), (0, .methodref 10 28), (0, .nameAndType 5 29), (0, u "([CIILjava/lang/Void;)V"), (8, .fieldref 10 39), (0, .nameAndType 40 26), (0, u "COMPACT_STRINGS"), (1, .class_ 44), (1, u "java/lang/StringUTF16"), (0, u "compress"), (1, .methodref 42 48), (0, .nameAndType 49 50), (0, u "coderFromArrayLen"), (0, u "([BI)B"), (56, .class_ 109), (1, u "java/lang/StringLatin1"), (67, .methodref 42 178), (0, .nameAndType 45 179), (0, u "([CII)[B"), (361, .methodref 107 542), (0, .nameAndType 543 544), (0, u "equals"), (0, u "([B[B)Z"), (28, u "(Ljava/lang/Object;)Z"), (1, .class_ 576), (0, u "java/lang/CharSequence"), (22, u "CASE_INSENSITIVE_ORDER"), (0, u "Ljava/util/Comparator;"), (409, u "([C)V"), (90, u "serialPersistentFields"), (0, u "[Ljava/io/ObjectStreamField;"), (0, .class_ 1104), (0, u "java/lang/String$CaseInsensitiveComparator"), (1, .class_ 1107), (0, u "java/io/Serializable"), (0, .class_ 1109), (0, u "java/lang/Comparable"), (0, .class_ 1111), (0, u "java/lang/constant/Constable"), (0, .class_ 1113), (0, u "java/lang/constant/ConstantDesc"), (2, u "serialVersionUID"), (0, u "J"), (3, u "REPL"), (0, u "C"), (2, u "LATIN1"), (1, u "UTF16")] 323

def k7m0 : Method := { name := "<init>", desc := "()V", sig := { parameters := [], returnType := none }, accessFlags := 1, code := none }
def k7c1 : Code := { maxStack := 5, maxLocals := 2, code := jdk_42_method_3_code, exceptionTable := #[], attributes := #[] }
def k7m1 : Method := { name := "<init>", desc := "([C)V", sig := { parameters := [(.array .char)], returnType := none }, accessFlags := 1, code := some k7c1 }
def k7c2 : Code := { maxStack := 2, maxLocals := 3, code := jdk_42_method_66_code, exceptionTable := #[], attributes := #[] }
def k7m2 : Method := { name := "equals", desc := "(Ljava/lang/Object;)Z", sig := { parameters := [(.object "java/lang/Object")], returnType := some .boolean }, accessFlags := 1, code := some k7c2 }
def k7c3 : Code := { maxStack := 4, maxLocals := 6, code := jdk_42_method_149_code, exceptionTable := #[], attributes := #[] }
def k7m3 : Method := { name := "<init>", desc := "([CIILjava/lang/Void;)V", sig := { parameters := [(.array .char), .int, .int, (.object "java/lang/Void")], returnType := none }, accessFlags := 2, code := some k7c3 }
/-- java/lang/String -/
def k7 : Class := { plain "java/lang/String" (some 0) with
  accessFlags := 49
  interfaces := #[2, 3, 4, 5, 6]
  cf := some (fileOf pool7 10 #[.nestMembers #[1103]] #[{ accessFlags := 1, nameIndex := 5, descriptorIndex := 6, attributes := #[] }, { accessFlags := 1, nameIndex := 5, descriptorIndex := 1010, attributes := #[] }, { accessFlags := 1, nameIndex := 543, descriptorIndex := 573, attributes := #[] }, { accessFlags := 2, nameIndex := 5, descriptorIndex := 29, attributes := #[] }] 49 2 #[1106, 1108, 575, 1110, 1112] #[{ accessFlags := 18, nameIndex := 13, descriptorIndex := 14, attributes := #[] }, { accessFlags := 18, nameIndex := 17, descriptorIndex := 18, attributes := #[] }, { accessFlags := 2, nameIndex := 21, descriptorIndex := 22, attributes := #[] }, { accessFlags := 2, nameIndex := 25, descriptorIndex := 26, attributes := #[] }, { accessFlags := 26, nameIndex := 1116, descriptorIndex := 1117, attributes := #[] }, { accessFlags := 24, nameIndex := 40, descriptorIndex := 26, attributes := #[] }, { accessFlags := 26, nameIndex := 1101, descriptorIndex := 1102, attributes := #[] }, { accessFlags := 26, nameIndex := 1121, descriptorIndex := 1122, attributes := #[] }, { accessFlags := 25, nameIndex := 599, descriptorIndex := 600, attributes := #[] }, { accessFlags := 24, nameIndex := 1125, descriptorIndex := 18, attributes := #[] }, { accessFlags := 24, nameIndex := 1127, descriptorIndex := 18, attributes := #[] }])
  fields := #[{ name := "value", type := (.array .byte), accessFlags := 18, slot := 0, constantValue := 0 }, { name := "coder", type := .byte, accessFlags := 18, slot := 1, constantValue := 0 }, { name := "hash", type := .int, accessFlags := 2, slot := 2, constantValue := 0 }, { name := "hashIsZero", type := .boolean, accessFlags := 2, slot := 3, constantValue := 0 }, { name := "serialVersionUID", type := .long, accessFlags := 26, slot := 0, constantValue := 0 }, { name := "COMPACT_STRINGS", type := .boolean, accessFlags := 24, slot := 1, constantValue := 0 }, { name := "serialPersistentFields", type := (.array (.object "java/io/ObjectStreamField")), accessFlags := 26, slot := 2, constantValue := 0 }, { name := "REPL", type := .char, accessFlags := 26, slot := 3, constantValue := 0 }, { name := "CASE_INSENSITIVE_ORDER", type := (.object "java/util/Comparator"), accessFlags := 25, slot := 4, constantValue := 0 }, { name := "LATIN1", type := .byte, accessFlags := 24, slot := 5, constantValue := 0 }, { name := "UTF16", type := .byte, accessFlags := 24, slot := 6, constantValue := 0 }]
  methods := #[k7m0, k7m1, k7m2, k7m3]
  instanceTypes := #[(.array .byte), .byte, .int, .boolean]
  staticTypes := #[.long, .boolean, (.array (.object "java/io/ObjectStreamField")), .char, (.object "java/util/Comparator"), .byte, .byte]
  resolved := Array.replicate 1451 none
  statics := some 0 }

def pool8 : Array CpInfo := pool [(1, .methodref 2 3), (0, .class_ 4), (0, .nameAndType 5 6), (0, u "java/lang/Object"), (0, u "<init>"), (0, u "()V"), (0, .string 8), (0, u "name"), (0, .methodref 10 11), (0, .class_ 12), (0, .nameAndType 13 14), (0, u "java/util/Objects"), (0, u "requireNonNull"), (0, u "(Ljava/lang/Object;Ljava/lang/String;)Ljava/lang/Object;"), (0, .class_ 16), (0, u "java/lang/String"), (0, .fieldref 18 19), (0, .class_ 20), (0, .nameAndType 8 21), (0, u "com/example/horne/horne/term/Indicator"), (0, u "Ljava/lang/String;"), (0, .fieldref 18 23), (0, .nameAndType 24 25), (0, u "arity"), (0, u "I"), (8, u "(Ljava/lang/String;I)V"), (33, .methodref 15 69), (0, .nameAndType 70 71), (0, u "equals"), (0, u "(Ljava/lang/Object;)Z")] 33

def k8c0 : Code := { maxStack := 3, maxLocals := 3, code := prog_68_method_1_code, exceptionTable := #[], attributes := #[] }
def k8m0 : Method := { name := "<init>", desc := "(Ljava/lang/String;I)V", sig := { parameters := [(.object "java/lang/String"), .int], returnType := none }, accessFlags := 1, code := some k8c0 }
def k8c1 : Code := { maxStack := 2, maxLocals := 3, code := prog_68_method_4_code, exceptionTable := #[], attributes := #[] }
def k8m1 : Method := { name := "equals", desc := "(Ljava/lang/Object;)Z", sig := { parameters := [(.object "java/lang/Object")], returnType := some .boolean }, accessFlags := 1, code := some k8c1 }
/-- com/example/horne/horne/term/Indicator -/
def k8 : Class := { plain "com/example/horne/horne/term/Indicator" (some 0) with
  accessFlags := 49
  interfaces := #[]
  cf := some (fileOf pool8 18 #[] #[{ accessFlags := 1, nameIndex := 5, descriptorIndex := 34, attributes := #[] }, { accessFlags := 1, nameIndex := 70, descriptorIndex := 71, attributes := #[] }] 49 2 #[] #[{ accessFlags := 18, nameIndex := 8, descriptorIndex := 21, attributes := #[] }, { accessFlags := 18, nameIndex := 24, descriptorIndex := 25, attributes := #[] }])
  fields := #[{ name := "name", type := (.object "java/lang/String"), accessFlags := 18, slot := 0, constantValue := 0 }, { name := "arity", type := .int, accessFlags := 18, slot := 1, constantValue := 0 }]
  methods := #[k8m0, k8m1]
  instanceTypes := #[(.object "java/lang/String"), .int]
  staticTypes := #[]
  resolved := Array.replicate 105 none
  statics := none }

def pool9 : Array CpInfo := pool [(2, .class_ 4), (1, u "java/lang/Object"), (0, u "<init>"), (0, u "()V"), (35, .class_ 44), (1, u "java/util/Objects"), (0, u "requireNonNull"), (48, u "(Ljava/lang/Object;Ljava/lang/String;)Ljava/lang/Object;")] 89

def k9m0 : Method := { name := "<init>", desc := "()V", sig := { parameters := [], returnType := none }, accessFlags := 2, code := none }
def k9c1 : Code := { maxStack := 3, maxLocals := 2, code := jdk_31_method_11_code, exceptionTable := #[], attributes := #[] }
def k9m1 : Method := { name := "requireNonNull", desc := "(Ljava/lang/Object;Ljava/lang/String;)Ljava/lang/Object;", sig := { parameters := [(.object "java/lang/Object"), (.object "java/lang/String")], returnType := some (.object "java/lang/Object") }, accessFlags := 9, code := some k9c1 }
/-- java/util/Objects -/
def k9 : Class := { plain "java/util/Objects" (some 0) with
  accessFlags := 49
  interfaces := #[]
  cf := some (fileOf pool9 42 #[] #[{ accessFlags := 2, nameIndex := 5, descriptorIndex := 6, attributes := #[] }, { accessFlags := 9, nameIndex := 45, descriptorIndex := 94, attributes := #[] }] 49 2 #[] #[])
  fields := #[]
  methods := #[k9m0, k9m1]
  instanceTypes := #[]
  staticTypes := #[]
  resolved := Array.replicate 184 none
  statics := none }

def pool10 : Array CpInfo := pool [(1, .methodref 2 3), (0, .class_ 4), (0, .nameAndType 5 6), (0, u "java/lang/Object"), (0, u "<init>"), (0, u "()V"), (0, .class_ 8), (0, u "com/example/horne/horne/term/Term")] 17

def k10c0 : Code := { maxStack := 1, maxLocals := 1, code := prog_78_method_1_code, exceptionTable := #[], attributes := #[] }
def k10m0 : Method := { name := "<init>", desc := "()V", sig := { parameters := [], returnType := none }, accessFlags := 1, code := some k10c0 }
/-- com/example/horne/horne/term/Term -/
def k10 : Class := { plain "com/example/horne/horne/term/Term" (some 0) with
  accessFlags := 1057
  interfaces := #[]
  cf := some (fileOf pool10 7 #[] #[{ accessFlags := 1, nameIndex := 5, descriptorIndex := 6, attributes := #[] }] 1057 2 #[] #[])
  fields := #[]
  methods := #[k10m0]
  instanceTypes := #[]
  staticTypes := #[]
  resolved := Array.replicate 26 none
  statics := none }

def pool11 : Array CpInfo := pool [(1, .methodref 2 3), (0, .class_ 4), (0, .nameAndType 5 6), (0, u "com/example/horne/horne/term/Term"), (0, u "<init>"), (0, u "()V"), (0, .string 8), (0, u "name"), (0, .methodref 10 11), (0, .class_ 12), (0, .nameAndType 13 14), (0, u "java/util/Objects"), (0, u "requireNonNull"), (0, u "(Ljava/lang/Object;Ljava/lang/String;)Ljava/lang/Object;"), (0, .class_ 16), (0, u "java/lang/String"), (0, .fieldref 18 19), (0, .class_ 20), (0, .nameAndType 8 21), (0, u "com/example/horne/horne/term/Atom"), (0, u "Ljava/lang/String;"), (8, u "(Ljava/lang/String;)V")] 8

def k11c0 : Code := { maxStack := 3, maxLocals := 2, code := prog_62_method_1_code, exceptionTable := #[], attributes := #[] }
def k11m0 : Method := { name := "<init>", desc := "(Ljava/lang/String;)V", sig := { parameters := [(.object "java/lang/String")], returnType := none }, accessFlags := 1, code := some k11c0 }
/-- com/example/horne/horne/term/Atom -/
def k11 : Class := { plain "com/example/horne/horne/term/Atom" (some 10) with
  accessFlags := 49
  interfaces := #[]
  cf := some (fileOf pool11 18 #[] #[{ accessFlags := 1, nameIndex := 5, descriptorIndex := 30, attributes := #[] }] 49 2 #[] #[{ accessFlags := 18, nameIndex := 8, descriptorIndex := 21, attributes := #[] }])
  fields := #[{ name := "name", type := (.object "java/lang/String"), accessFlags := 18, slot := 0, constantValue := 0 }]
  methods := #[k11m0]
  instanceTypes := #[(.object "java/lang/String")]
  staticTypes := #[]
  resolved := Array.replicate 39 none
  statics := none }

def pool12 : Array CpInfo := pool [(6, .class_ 8), (1, u "java/lang/Object"), (0, u "<init>"), (0, u "()V"), (1, .class_ 14), (1, u "java/lang/StringUTF16"), (31, u "$assertionsDisabled"), (0, u "Z"), (13, u "HI_BYTE_SHIFT"), (0, u "I"), (2, u "LO_BYTE_SHIFT"), (49, .methodref 12 116), (0, .nameAndType 117 118), (0, u "compress"), (0, u "([CI[BII)I"), (3, u "([CII)[B"), (138, u "coderFromArrayLen"), (0, u "([BI)B"), (106, .class_ 371), (1, u "java/lang/StringUTF16$LinesSpliterator"), (58, u "MAX_LENGTH"), (196, .class_ 628), (0, u "java/lang/StringUTF16$CodePointsSpliterator"), (0, .class_ 630), (0, u "java/lang/StringUTF16$CharsSpliterator")] 4

def k12m0 : Method := { name := "<init>", desc := "()V", sig := { parameters := [], returnType := none }, accessFlags := 0, code := none }
def k12c1 : Code := { maxStack := 2, maxLocals := 2, code := jdk_52_method_15_code, exceptionTable := #[], attributes := #[] }
def k12m1 : Method := { name := "coderFromArrayLen", desc := "([BI)B", sig := { parameters := [(.array .byte), .int], returnType := some .byte }, accessFlags := 8, code := some k12c1 }
def k12c2 : Code := { maxStack := 5, maxLocals := 6, code := jdk_52_method_16_code, exceptionTable := #[], attributes := #[] }
def k12m2 : Method := { name := "compress", desc := "([CII)[B", sig := { parameters := [(.array .char), .int, .int], returnType := some (.array .byte) }, accessFlags := 9, code := some k12c2 }
def k12c3 : Code := { maxStack := 3, maxLocals := 7, code := jdk_52_method_21_code, exceptionTable := #[], attributes := #[] }
def k12m3 : Method := { name := "compress", desc := "([CI[BII)I", sig := { parameters := [(.array .char), .int, (.array .byte), .int, .int], returnType := some .int }, accessFlags := 9, code := some k12c3 }
/-- java/lang/StringUTF16 -/
def k12 : Class := { plain "java/lang/StringUTF16" (some 0) with
  accessFlags := 48
  interfaces := #[]
  cf := some (fileOf pool12 12 #[.nestMembers #[627, 629, 369]] #[{ accessFlags := 0, nameIndex := 9, descriptorIndex := 10, attributes := #[] }, { accessFlags := 8, nameIndex := 261, descriptorIndex := 262, attributes := #[] }, { accessFlags := 9, nameIndex := 117, descriptorIndex := 122, attributes := #[] }, { accessFlags := 9, nameIndex := 117, descriptorIndex := 118, attributes := #[] }] 48 6 #[] #[{ accessFlags := 26, nameIndex := 61, descriptorIndex := 62, attributes := #[] }, { accessFlags := 26, nameIndex := 65, descriptorIndex := 62, attributes := #[] }, { accessFlags := 24, nameIndex := 430, descriptorIndex := 62, attributes := #[] }, { accessFlags := 4120, nameIndex := 46, descriptorIndex := 47, attributes := #[] }])
  fields := #[{ name := "HI_BYTE_SHIFT", type := .int, accessFlags := 26, slot := 0, constantValue := 0 }, { name := "LO_BYTE_SHIFT", type := .int, accessFlags := 26, slot := 1, constantValue := 0 }, { name := "MAX_LENGTH", type := .int, accessFlags := 24, slot := 2, constantValue := 0 }, { name := "$assertionsDisabled", type := .boolean, accessFlags := 4120, slot := 3, constantValue := 0 }]
  methods := #[k12m0, k12m1, k12m2, k12m3]
  instanceTypes := #[]
  staticTypes := #[.int, .int, .int, .boolean]
  resolved := Array.replicate 635 none
  statics := none }

def pool13 : Array CpInfo := pool [(4, .class_ 6), (1, u "java/lang/Object"), (0, u "<init>"), (0, u "()V"), (5, .class_ 16), (1, u "java/lang/StringLatin1"), (104, u "$assertionsDisabled"), (0, u "Z"), (98, .class_ 223), (1, u "java/lang/StringLatin1$LinesSpliterator"), (57, u "equals"), (0, u "([B[B)Z"), (107, .class_ 391), (0, u "java/lang/StringLatin1$CharsSpliterator")] 3

def k13m0 : Method := { name := "<init>", desc := "()V", sig := { parameters := [], returnType := none }, accessFlags := 0, code := none }
def k13c1 : Code := { maxStack := 3, maxLocals := 3, code := jdk_43_method_13_code, exceptionTable := #[], attributes := #[] }
def k13m1 : Method := { name := "equals", desc := "([B[B)Z", sig := { parameters := [(.array .byte), (.array .byte)], returnType := some .boolean }, accessFlags := 9, code := some k13c1 }
/-- java/lang/StringLatin1 -/
def k13 : Class := { plain "java/lang/StringLatin1" (some 0) with
  accessFlags := 48
  interfaces := #[]
  cf := some (fileOf pool13 14 #[.nestMembers #[390, 221]] #[{ accessFlags := 0, nameIndex := 7, descriptorIndex := 8, attributes := #[] }, { accessFlags := 9, nameIndex := 281, descriptorIndex := 282, attributes := #[] }] 48 4 #[] #[{ accessFlags := 4120, nameIndex := 121, descriptorIndex := 122, attributes := #[] }])
  fields := #[{ name := "$assertionsDisabled", type := .boolean, accessFlags := 4120, slot := 0, constantValue := 0 }]
  methods := #[k13m0, k13m1]
  instanceTypes := #[]
  staticTypes := #[.boolean]
  resolved := Array.replicate 395 none
  statics := none }

def pool14 : Array CpInfo := pool [(2, .class_ 4), (1, u "java/lang/Object"), (0, u "<init>"), (0, u "()V"), (17, .class_ 26), (1, u "jdk/internal/util/Preconditions"), (28, .class_ 56), (0, u "jdk/internal/util/Preconditions$4"), (57, .class_ 115), (0, u "jdk/internal/util/Preconditions$1"), (7, u "SIOOBE_FORMATTER"), (0, u "Ljava/util/function/BiFunction;"), (0, .class_ 126), (0, u "jdk/internal/util/Preconditions$2"), (3, u "AIOOBE_FORMATTER"), (0, .class_ 132), (0, u "jdk/internal/util/Preconditions$3"), (3, u "IOOBE_FORMATTER")] 57

def k14m0 : Method := { name := "<init>", desc := "()V", sig := { parameters := [], returnType := none }, accessFlags := 1, code := none }
/-- jdk/internal/util/Preconditions -/
def k14 : Class := { plain "jdk/internal/util/Preconditions" (some 0) with
  accessFlags := 33
  interfaces := #[]
  cf := some (fileOf pool14 24 #[.nestMembers #[55, 131, 125, 114]] #[{ accessFlags := 1, nameIndex := 5, descriptorIndex := 6, attributes := #[] }] 33 2 #[] #[{ accessFlags := 25, nameIndex := 123, descriptorIndex := 124, attributes := #[] }, { accessFlags := 25, nameIndex := 130, descriptorIndex := 124, attributes := #[] }, { accessFlags := 25, nameIndex := 136, descriptorIndex := 124, attributes := #[] }])
  fields := #[{ name := "SIOOBE_FORMATTER", type := (.object "java/util/function/BiFunction"), accessFlags := 25, slot := 0, constantValue := 0 }, { name := "AIOOBE_FORMATTER", type := (.object "java/util/function/BiFunction"), accessFlags := 25, slot := 1, constantValue := 0 }, { name := "IOOBE_FORMATTER", type := (.object "java/util/function/BiFunction"), accessFlags := 25, slot := 2, constantValue := 0 }]
  methods := #[k14m0]
  instanceTypes := #[]
  staticTypes := #[(.object "java/util/function/BiFunction"), (.object "java/util/function/BiFunction"), (.object "java/util/function/BiFunction")]
  resolved := Array.replicate 194 none
  statics := some 1 }

def pool15 : Array CpInfo := pool [(9, u "<init>"), (6, .class_ 18), (1, u "java/lang/Object"), (0, u "()V"), (1, .class_ 23), (1, u "jdk/internal/util/ArraysSupport"), (0, u "LOG2_ARRAY_LONG_INDEX_SCALE"), (0, u "I"), (2, u "U"), (0, u "Ljdk/internal/misc/Unsafe;"), (8, u "BIG_ENDIAN"), (0, u "Z"), (8, u "LOG2_BYTE_BIT_SIZE"), (4, u "LOG2_ARRAY_INT_INDEX_SCALE"), (54, u "JLA"), (0, u "Ljdk/internal/access/JavaLangAccess;"), (11, u "LOG2_ARRAY_BOOLEAN_INDEX_SCALE"), (9, u "LOG2_ARRAY_BYTE_INDEX_SCALE"), (5, u "LOG2_ARRAY_CHAR_INDEX_SCALE"), (5, u "LOG2_ARRAY_SHORT_INDEX_SCALE"), (18, u "LOG2_ARRAY_FLOAT_INDEX_SCALE"), (24, u "LOG2_ARRAY_DOUBLE_INDEX_SCALE"), (89, u "T_BOOLEAN"), (2, u "T_CHAR"), (1, u "T_FLOAT"), (1, u "T_DOUBLE"), (1, u "T_BYTE"), (1, u "T_SHORT"), (1, u "T_INT"), (1, u "T_LONG"), (1, u "SOFT_MAX_ARRAY_LENGTH")] 83

def k15m0 : Method := { name := "<init>", desc := "()V", sig := { parameters := [], returnType := none }, accessFlags := 2, code := none }
/-- jdk/internal/util/ArraysSupport -/
def k15 : Class := { plain "jdk/internal/util/ArraysSupport" (some 0) with
  accessFlags := 33
  interfaces := #[]
  cf := some (fileOf pool15 21 #[] #[{ accessFlags := 2, nameIndex := 9, descriptorIndex := 19, attributes := #[] }] 33 16 #[] #[{ accessFlags := 24, nameIndex := 28, descriptorIndex := 29, attributes := #[] }, { accessFlags := 26, nameIndex := 38, descriptorIndex := 39, attributes := #[] }, { accessFlags := 25, nameIndex := 121, descriptorIndex := 25, attributes := #[] }, { accessFlags := 25, nameIndex := 131, descriptorIndex := 25, attributes := #[] }, { accessFlags := 25, nameIndex := 137, descriptorIndex := 25, attributes := #[] }, { accessFlags := 25, nameIndex := 143, descriptorIndex := 25, attributes := #[] }, { accessFlags := 25, nameIndex := 53, descriptorIndex := 25, attributes := #[] }, { accessFlags := 25, nameIndex := 24, descriptorIndex := 25, attributes := #[] }, { accessFlags := 25, nameIndex := 162, descriptorIndex := 25, attributes := #[] }, { accessFlags := 25, nameIndex := 187, descriptorIndex := 25, attributes := #[] }, { accessFlags := 26, nameIndex := 48, descriptorIndex := 25, attributes := #[] }, { accessFlags := 25, nameIndex := 277, descriptorIndex := 25, attributes := #[] }, { accessFlags := 25, nameIndex := 280, descriptorIndex := 25, attributes := #[] }, { accessFlags := 25, nameIndex := 282, descriptorIndex := 25, attributes := #[] }, { accessFlags := 25, nameIndex := 284, descriptorIndex := 25, attributes := #[] }, { accessFlags := 25, nameIndex := 286, descriptorIndex := 25, attributes := #[] }, { accessFlags := 25, nameIndex := 288, descriptorIndex := 25, attributes := #[] }, { accessFlags := 25, nameIndex := 290, descriptorIndex := 25, attributes := #[] }, { accessFlags := 25, nameIndex := 292, descriptorIndex := 25, attributes := #[] }, { accessFlags := 26, nameIndex := 108, descriptorIndex := 109, attributes := #[] }, { accessFlags := 25, nameIndex := 294, descriptorIndex := 25, attributes := #[] }])
  fields := #[{ name := "U", type := (.object "jdk/internal/misc/Unsafe"), accessFlags := 24, slot := 0, constantValue := 0 }, { name := "BIG_ENDIAN", type := .boolean, accessFlags := 26, slot := 1, constantValue := 0 }, { name := "LOG2_ARRAY_BOOLEAN_INDEX_SCALE", type := .int, accessFlags := 25, slot := 2, constantValue := 0 }, { name := "LOG2_ARRAY_BYTE_INDEX_SCALE", type := .int, accessFlags := 25, slot := 3, constantValue := 0 }, { name := "LOG2_ARRAY_CHAR_INDEX_SCALE", type := .int, accessFlags := 25, slot := 4, constantValue := 0 }, { name := "LOG2_ARRAY_SHORT_INDEX_SCALE", type := .int, accessFlags := 25, slot := 5, constantValue := 0 }, { name := "LOG2_ARRAY_INT_INDEX_SCALE", type := .int, accessFlags := 25, slot := 6, constantValue := 0 }, { name := "LOG2_ARRAY_LONG_INDEX_SCALE", type := .int, accessFlags := 25, slot := 7, constantValue := 0 }, { name := "LOG2_ARRAY_FLOAT_INDEX_SCALE", type := .int, accessFlags := 25, slot := 8, constantValue := 0 }, { name := "LOG2_ARRAY_DOUBLE_INDEX_SCALE", type := .int, accessFlags := 25, slot := 9, constantValue := 0 }, { name := "LOG2_BYTE_BIT_SIZE", type := .int, accessFlags := 26, slot := 10, constantValue := 0 }, { name := "T_BOOLEAN", type := .int, accessFlags := 25, slot := 11, constantValue := 0 }, { name := "T_CHAR", type := .int, accessFlags := 25, slot := 12, constantValue := 0 }, { name := "T_FLOAT", type := .int, accessFlags := 25, slot := 13, constantValue := 0 }, { name := "T_DOUBLE", type := .int, accessFlags := 25, slot := 14, constantValue := 0 }, { name := "T_BYTE", type := .int, accessFlags := 25, slot := 15, constantValue := 0 }, { name := "T_SHORT", type := .int, accessFlags := 25, slot := 16, constantValue := 0 }, { name := "T_INT", type := .int, accessFlags := 25, slot := 17, constantValue := 0 }, { name := "T_LONG", type := .int, accessFlags := 25, slot := 18, constantValue := 0 }, { name := "JLA", type := (.object "jdk/internal/access/JavaLangAccess"), accessFlags := 26, slot := 19, constantValue := 0 }, { name := "SOFT_MAX_ARRAY_LENGTH", type := .int, accessFlags := 25, slot := 20, constantValue := 0 }]
  methods := #[k15m0]
  instanceTypes := #[]
  staticTypes := #[(.object "jdk/internal/misc/Unsafe"), .boolean, .int, .int, .int, .int, .int, .int, .int, .int, .int, .int, .int, .int, .int, .int, .int, .int, .int, (.object "jdk/internal/access/JavaLangAccess"), .int]
  resolved := Array.replicate 378 none
  statics := none }

def pool16 : Array CpInfo := pool [(1, u "java/lang/Cloneable"), (0, .class_ 1), (0, u "java/lang/Object"), (0, .class_ 3)] 3

/-- java/lang/Cloneable -/
def k16 : Class := { plain "java/lang/Cloneable" (some 0) with
  accessFlags := 1537
  interfaces := #[]
  cf := some (fileOf pool16 2 #[] #[] 1537 4 #[] #[])
  fields := #[]
  methods := #[]
  instanceTypes := #[]
  staticTypes := #[]
  resolved := Array.replicate 8 none
  statics := none }

/-- the primitive byte -/
def k17 : Class := { plain "byte" none with kind := .primitive 'B', accessFlags := 0x411 }
/-- [B -/
def k18 : Class := { plain "[B" (some 0) with kind := .array 17 .byte, interfaces := #[16, 2], accessFlags := 1041 }

/-- the primitive char -/
def k19 : Class := { plain "char" none with kind := .primitive 'C', accessFlags := 0x411 }
/-- [C -/
def k20 : Class := { plain "[C" (some 0) with kind := .array 19 .char, interfaces := #[16, 2], accessFlags := 1041 }

/-- the primitive int -/
def k21 : Class := { plain "int" none with kind := .primitive 'I', accessFlags := 0x411 }
/-- [I -/
def k22 : Class := { plain "[I" (some 0) with kind := .array 21 .int, interfaces := #[16, 2], accessFlags := 1041 }

def heap : Heap := #[{ cls := 7, slots := #[.long 0, .int 1, .null, .int 0, .null, .int 0, .int 0], vm := .statics 7 },
  { cls := 14, slots := #[.null, .null, .null], vm := .statics 14 }]
def classes : Array Class := #[k0, k1, k2, k3, k4, k5, k6, k7, k8, k9, k10, k11, k12, k13, k14, k15, k16, k17, k18, k19, k20, k21, k22]
def interned : List (Array UInt16 × Addr) := []
def slotsUsed : Nat := 10
def theMethod : MethodId := ⟨1, 4⟩
def args0 : Array Value := #[.int 5, .int 3, .int 4, .int 6, .int 7, .int 8]
def aboutOver (below : List Frame) : State where
  vm := { classes := classes, interned := interned.toArray }
  heap := heap
  slotsUsed := slotsUsed
  threads := #[{ frames := .invoking theMethod args0 :: below }]
def below0 : List Frame := [.native { method := ⟨0, 0⟩, args := #[] }]
def about1 : State := aboutOver below0
def p0 : Program := .bare "" "" ""
def e0 : Env := launch0.env 0 0 0
theorem w_frames : about1.frames = Frame.invoking theMethod args0 :: below0 := rfl
set_option maxRecDepth 65536 in
theorem w_args : argsFit about1.vm theMethod args0 = true := by decide +kernel
set_option maxRecDepth 65536 in
theorem w_heap : heapFits about1 = true := by decide +kernel
set_option maxRecDepth 65536 in
theorem w_runnable : about1.curStatus? = some .runnable := by decide +kernel
set_option maxRecDepth 65536 in
theorem w_alone : about1.alone = true := by decide +kernel
set_option maxRecDepth 65536 in
theorem w_named : about1.methodNamed? x = some theMethod := by decide +kernel
set_option maxRecDepth 65536 in
theorem w_hears : about1.hears theMethod below0 = true := by decide +kernel
set_option maxRecDepth 65536 in
theorem w_ripe : about1.ripe theMethod args0 below0 = true := by decide +kernel
theorem w_running : about1.status = .running := rfl
set_option maxRecDepth 65536 in
theorem w_room : about1.hasRoom e0.platform room_1 = true :=
  launch0.hasRoom_least _ room_1 (by decide +kernel) (by decide +kernel) (by decide +kernel) (by decide +kernel) (by decide +kernel) (by decide +kernel)
theorem allAtoms_all (ts : List Jvm.Cond) (a : Array Jvm.Value) (st : Jvm.State) : (allAtoms ts).before a st = ts.all (fun c => c.before a st) := by
  induction ts with
  | nil => rfl
  | cons c t ih =>
    show (Jvm.Cond.and c (allAtoms t)).before a st = _
    rw [Jvm.Cond.before_and, ih, List.all_cons]
def words1 : List Jvm.Cond := Jvm.Cond.code x code maxLocals ret :: tables_1
/-- a 'code' word, met by the world's own term for the bytes: nothing is compared byte by byte -/
theorem code_word {y : MethodName} {bytes : ByteArray} {mx : Nat} {rt : Option FieldType} {a : Array Value} {s : State} {m : MethodId} {meth : Method} {c : Code} (h1 : s.methodNamed? y = some m) (h2 : s.vm.method? m = some meth) (h3 : meth.code = some c) (h4 : c.code = bytes)
    (h5 : (c.maxLocals == mx && c.exceptionTable.isEmpty && decide (c.maxStack ≤ mostOperands) && decide (meth.sig.returnType = rt) && !meth.locks && decide (parseMethodDescriptor y.desc = some meth.sig)) = true) : (Jvm.Cond.code y bytes mx rt).before a s = true := by
  simp only [Bool.and_eq_true, beq_iff_eq, Bool.not_eq_true', decide_eq_true_eq] at h5
  obtain ⟨⟨⟨⟨⟨g1, g2⟩, g3⟩, g4⟩, g5⟩, g6⟩ := h5
  simp [Cond.before, Cond.holds, Cond.value, h1, h2, h3, h4, g1, g2, g3, g4, g5, g6]
def isCode : Jvm.Cond → Bool
  | .code _ _ _ _ => true
  | _ => false
theorem all_split {L : List Jvm.Cond} {P : Jvm.Cond → Bool} (h1 : L.all (fun c => isCode c || P c) = true) (h2 : ∀ c ∈ L.filter isCode, P c = true) : L.all P = true := by
  refine List.all_eq_true.mpr fun c hc => ?_
  have h := List.all_eq_true.mp h1 c hc
  rcases Bool.eq_false_or_eq_true (isCode c) with hi | hi
  · exact h2 c (List.mem_filter.mpr ⟨hc, hi⟩)
  · simpa [hi] using h
set_option maxRecDepth 65536 in
theorem w_c0 : (Jvm.Cond.code x code maxLocals ret).before args0 about1 = true := code_word (m := ⟨1, 4⟩) (meth := k1m4) (c := k1c4) (by decide +kernel) rfl rfl rfl (by decide +kernel)
set_option maxRecDepth 65536 in
theorem w_c1 : (Jvm.Cond.code ({ cls := "com/example/horne/horne/term/IndicatorEqualsPinLaw", name := "str", desc := "(II)Ljava/lang/String;" } : Jvm.MethodName) method_3_code (3 : Nat) (Option.some (Jvm.ClassFile.FieldType.object "java/lang/String"))).before args0 about1 = true := code_word (m := ⟨1, 2⟩) (meth := k1m2) (c := k1c2) (by decide +kernel) rfl rfl rfl (by decide +kernel)
set_option maxRecDepth 65536 in
theorem w_c2 : (Jvm.Cond.code ({ cls := "java/lang/String", name := "<init>", desc := "([C)V" } : Jvm.MethodName) jdk_42_method_3_code (2 : Nat) (Option.none : Option Jvm.ClassFile.FieldType)).before args0 about1 = true := code_word (m := ⟨7, 1⟩) (meth := k7m1) (c := k7c1) (by decide +kernel) rfl rfl rfl (by decide +kernel)
set_option maxRecDepth 65536 in
theorem w_c3 : (Jvm.Cond.code ({ cls := "java/lang/String", name := "<init>", desc := "([CIILjava/lang/Void;)V" } : Jvm.MethodName) jdk_42_method_149_code (6 : Nat) (Option.none : Option Jvm.ClassFile.FieldType)).before args0 about1 = true := code_word (m := ⟨7, 3⟩) (meth := k7m3) (c := k7c3) (by decide +kernel) rfl rfl rfl (by decide +kernel)
set_option maxRecDepth 65536 in
theorem w_c4 : (Jvm.Cond.code ({ cls := "java/lang/Object", name := "<init>", desc := "()V" } : Jvm.MethodName) object_method_1_code (1 : Nat) (Option.none : Option Jvm.ClassFile.FieldType)).before args0 about1 = true := code_word (m := ⟨0, 0⟩) (meth := k0m0) (c := k0c0) (by decide +kernel) rfl rfl rfl (by decide +kernel)
set_option maxRecDepth 65536 in
theorem w_c5 : (Jvm.Cond.code ({ cls := "com/example/horne/horne/term/Indicator", name := "<init>", desc := "(Ljava/lang/String;I)V" } : Jvm.MethodName) prog_68_method_1_code (3 : Nat) (Option.none : Option Jvm.ClassFile.FieldType)).before args0 about1 = true := code_word (m := ⟨8, 0⟩) (meth := k8m0) (c := k8c0) (by decide +kernel) rfl rfl rfl (by decide +kernel)
set_option maxRecDepth 65536 in
theorem w_c6 : (Jvm.Cond.code ({ cls := "java/util/Objects", name := "requireNonNull", desc := "(Ljava/lang/Object;Ljava/lang/String;)Ljava/lang/Object;" } : Jvm.MethodName) jdk_31_method_11_code (2 : Nat) (Option.some (Jvm.ClassFile.FieldType.object "java/lang/Object"))).before args0 about1 = true := code_word (m := ⟨9, 1⟩) (meth := k9m1) (c := k9c1) (by decide +kernel) rfl rfl rfl (by decide +kernel)
set_option maxRecDepth 65536 in
theorem w_c7 : (Jvm.Cond.code ({ cls := "com/example/horne/horne/term/Atom", name := "<init>", desc := "(Ljava/lang/String;)V" } : Jvm.MethodName) prog_62_method_1_code (2 : Nat) (Option.none : Option Jvm.ClassFile.FieldType)).before args0 about1 = true := code_word (m := ⟨11, 0⟩) (meth := k11m0) (c := k11c0) (by decide +kernel) rfl rfl rfl (by decide +kernel)
set_option maxRecDepth 65536 in
theorem w_c8 : (Jvm.Cond.code ({ cls := "com/example/horne/horne/term/Term", name := "<init>", desc := "()V" } : Jvm.MethodName) prog_78_method_1_code (1 : Nat) (Option.none : Option Jvm.ClassFile.FieldType)).before args0 about1 = true := code_word (m := ⟨10, 0⟩) (meth := k10m0) (c := k10c0) (by decide +kernel) rfl rfl rfl (by decide +kernel)
set_option maxRecDepth 65536 in
theorem w_c9 : (Jvm.Cond.code ({ cls := "com/example/horne/horne/term/Indicator", name := "equals", desc := "(Ljava/lang/Object;)Z" } : Jvm.MethodName) prog_68_method_4_code (3 : Nat) (Option.some Jvm.ClassFile.FieldType.boolean)).before args0 about1 = true := code_word (m := ⟨8, 1⟩) (meth := k8m1) (c := k8c1) (by decide +kernel) rfl rfl rfl (by decide +kernel)
set_option maxRecDepth 65536 in
theorem w_c10 : (Jvm.Cond.code ({ cls := "com/example/horne/horne/term/IndicatorEqualsPinLaw", name := "ch", desc := "(II)C" } : Jvm.MethodName) method_2_code (2 : Nat) (Option.some Jvm.ClassFile.FieldType.char)).before args0 about1 = true := code_word (m := ⟨1, 1⟩) (meth := k1m1) (c := k1c1) (by decide +kernel) rfl rfl rfl (by decide +kernel)
set_option maxRecDepth 65536 in
theorem w_c11 : (Jvm.Cond.code ({ cls := "java/lang/StringUTF16", name := "compress", desc := "([CII)[B" } : Jvm.MethodName) jdk_52_method_16_code (6 : Nat) (Option.some (Jvm.ClassFile.FieldType.array Jvm.ClassFile.FieldType.byte))).before args0 about1 = true := code_word (m := ⟨12, 2⟩) (meth := k12m2) (c := k12c2) (by decide +kernel) rfl rfl rfl (by decide +kernel)
set_option maxRecDepth 65536 in
theorem w_c12 : (Jvm.Cond.code ({ cls := "java/lang/StringUTF16", name := "compress", desc := "([CI[BII)I" } : Jvm.MethodName) jdk_52_method_21_code (7 : Nat) (Option.some Jvm.ClassFile.FieldType.int)).before args0 about1 = true := code_word (m := ⟨12, 3⟩) (meth := k12m3) (c := k12c3) (by decide +kernel) rfl rfl rfl (by decide +kernel)
set_option maxRecDepth 65536 in
theorem w_c13 : (Jvm.Cond.code ({ cls := "java/lang/StringUTF16", name := "coderFromArrayLen", desc := "([BI)B" } : Jvm.MethodName) jdk_52_method_15_code (2 : Nat) (Option.some Jvm.ClassFile.FieldType.byte)).before args0 about1 = true := code_word (m := ⟨12, 1⟩) (meth := k12m1) (c := k12c1) (by decide +kernel) rfl rfl rfl (by decide +kernel)
set_option maxRecDepth 65536 in
theorem w_c14 : (Jvm.Cond.code ({ cls := "java/lang/String", name := "equals", desc := "(Ljava/lang/Object;)Z" } : Jvm.MethodName) jdk_42_method_66_code (3 : Nat) (Option.some Jvm.ClassFile.FieldType.boolean)).before args0 about1 = true := code_word (m := ⟨7, 2⟩) (meth := k7m2) (c := k7c2) (by decide +kernel) rfl rfl rfl (by decide +kernel)
set_option maxRecDepth 65536 in
theorem w_c15 : (Jvm.Cond.code ({ cls := "com/example/horne/horne/term/IndicatorEqualsPinLaw", name := "sameChars", desc := "(III)Z" } : Jvm.MethodName) method_4_code (4 : Nat) (Option.some Jvm.ClassFile.FieldType.boolean)).before args0 about1 = true := code_word (m := ⟨1, 3⟩) (meth := k1m3) (c := k1c3) (by decide +kernel) rfl rfl rfl (by decide +kernel)
set_option maxRecDepth 65536 in
theorem w_c16 : (Jvm.Cond.code ({ cls := "java/lang/StringLatin1", name := "equals", desc := "([B[B)Z" } : Jvm.MethodName) jdk_43_method_13_code (3 : Nat) (Option.some Jvm.ClassFile.FieldType.boolean)).before args0 about1 = true := code_word (m := ⟨13, 1⟩) (meth := k13m1) (c := k13c1) (by decide +kernel) rfl rfl rfl (by decide +kernel)
def codes1 : List Jvm.Cond := [Jvm.Cond.code x code maxLocals ret, Jvm.Cond.code ({ cls := "com/example/horne/horne/term/IndicatorEqualsPinLaw", name := "str", desc := "(II)Ljava/lang/String;" } : Jvm.MethodName) method_3_code (3 : Nat) (Option.some (Jvm.ClassFile.FieldType.object "java/lang/String")), Jvm.Cond.code ({ cls := "java/lang/String", name := "<init>", desc := "([C)V" } : Jvm.MethodName) jdk_42_method_3_code (2 : Nat) (Option.none : Option Jvm.ClassFile.FieldType), Jvm.Cond.code ({ cls := "java/lang/String", name := "<init>", desc := "([CIILjava/lang/Void;)V" } : Jvm.MethodName) jdk_42_method_149_code (6 : Nat) (Option.none : Option Jvm.ClassFile.FieldType), Jvm.Cond.code ({ cls := "java/lang/Object", name := "<init>", desc := "()V" } : Jvm.MethodName) object_method_1_code (1 : Nat) (Option.none : Option Jvm.ClassFile.FieldType), Jvm.Cond.code ({ cls := "com/example/horne/horne/term/Indicator", name := "<init>", desc := "(Ljava/lang/String;I)V" } : Jvm.MethodName) prog_68_method_1_code (3 : Nat) (Option.none : Option Jvm.ClassFile.FieldType), Jvm.Cond.code ({ cls := "java/util/Objects", name := "requireNonNull", desc := "(Ljava/lang/Object;Ljava/lang/String;)Ljava/lang/Object;" } : Jvm.MethodName) jdk_31_method_11_code (2 : Nat) (Option.some (Jvm.ClassFile.FieldType.object "java/lang/Object")), Jvm.Cond.code ({ cls := "com/example/horne/horne/term/Atom", name := "<init>", desc := "(Ljava/lang/String;)V" } : Jvm.MethodName) prog_62_method_1_code (2 : Nat) (Option.none : Option Jvm.ClassFile.FieldType), Jvm.Cond.code ({ cls := "com/example/horne/horne/term/Term", name := "<init>", desc := "()V" } : Jvm.MethodName) prog_78_method_1_code (1 : Nat) (Option.none : Option Jvm.ClassFile.FieldType), Jvm.Cond.code ({ cls := "com/example/horne/horne/term/Indicator", name := "equals", desc := "(Ljava/lang/Object;)Z" } : Jvm.MethodName) prog_68_method_4_code (3 : Nat) (Option.some Jvm.ClassFile.FieldType.boolean), Jvm.Cond.code ({ cls := "com/example/horne/horne/term/IndicatorEqualsPinLaw", name := "ch", desc := "(II)C" } : Jvm.MethodName) method_2_code (2 : Nat) (Option.some Jvm.ClassFile.FieldType.char), Jvm.Cond.code ({ cls := "java/lang/StringUTF16", name := "compress", desc := "([CII)[B" } : Jvm.MethodName) jdk_52_method_16_code (6 : Nat) (Option.some (Jvm.ClassFile.FieldType.array Jvm.ClassFile.FieldType.byte)), Jvm.Cond.code ({ cls := "java/lang/StringUTF16", name := "compress", desc := "([CI[BII)I" } : Jvm.MethodName) jdk_52_method_21_code (7 : Nat) (Option.some Jvm.ClassFile.FieldType.int), Jvm.Cond.code ({ cls := "java/lang/StringUTF16", name := "coderFromArrayLen", desc := "([BI)B" } : Jvm.MethodName) jdk_52_method_15_code (2 : Nat) (Option.some Jvm.ClassFile.FieldType.byte), Jvm.Cond.code ({ cls := "java/lang/String", name := "equals", desc := "(Ljava/lang/Object;)Z" } : Jvm.MethodName) jdk_42_method_66_code (3 : Nat) (Option.some Jvm.ClassFile.FieldType.boolean), Jvm.Cond.code ({ cls := "com/example/horne/horne/term/IndicatorEqualsPinLaw", name := "sameChars", desc := "(III)Z" } : Jvm.MethodName) method_4_code (4 : Nat) (Option.some Jvm.ClassFile.FieldType.boolean), Jvm.Cond.code ({ cls := "java/lang/StringLatin1", name := "equals", desc := "([B[B)Z" } : Jvm.MethodName) jdk_43_method_13_code (3 : Nat) (Option.some Jvm.ClassFile.FieldType.boolean)]
set_option maxRecDepth 65536 in
theorem codes_eq : words1.filter isCode = codes1 := rfl
theorem w_codes : ∀ c ∈ words1.filter isCode, c.before args0 about1 = true := by
  rw [codes_eq]
  intro c hc
  simp only [codes1, List.mem_cons, List.not_mem_nil, or_false] at hc
  rcases hc with rfl | rfl | rfl | rfl | rfl | rfl | rfl | rfl | rfl | rfl | rfl | rfl | rfl | rfl | rfl | rfl | rfl
  · exact w_c0
  · exact w_c1
  · exact w_c2
  · exact w_c3
  · exact w_c4
  · exact w_c5
  · exact w_c6
  · exact w_c7
  · exact w_c8
  · exact w_c9
  · exact w_c10
  · exact w_c11
  · exact w_c12
  · exact w_c13
  · exact w_c14
  · exact w_c15
  · exact w_c16
set_option maxRecDepth 65536 in
theorem w_t1 : (words1.take 24).all (fun c => isCode c || c.before args0 about1) = true := by decide +kernel
set_option maxRecDepth 65536 in
theorem w_t2 : ((words1.drop 24).take 24).all (fun c => isCode c || c.before args0 about1) = true := by decide +kernel
set_option maxRecDepth 65536 in
theorem w_t3 : (((words1.drop 24).drop 24).take 24).all (fun c => isCode c || c.before args0 about1) = true := by decide +kernel
set_option maxRecDepth 65536 in
theorem w_t4 : ((((words1.drop 24).drop 24).drop 24).take 24).all (fun c => isCode c || c.before args0 about1) = true := by decide +kernel
set_option maxRecDepth 65536 in
theorem w_t5 : ((((words1.drop 24).drop 24).drop 24).drop 24).all (fun c => isCode c || c.before args0 about1) = true := by decide +kernel
theorem w_tables : (allAtoms (Jvm.Cond.code x code maxLocals ret :: tables_1)).before args0 about1 = true := by
  rw [allAtoms_all]
  show words1.all (fun c => c.before args0 about1) = true
  refine all_split ?_ w_codes
  rw [← List.take_append_drop 24 words1, List.all_append, w_t1, ← List.take_append_drop 24 (words1.drop 24), List.all_append, w_t2, ← List.take_append_drop 24 ((words1.drop 24).drop 24), List.all_append, w_t3, ← List.take_append_drop 24 (((words1.drop 24).drop 24).drop 24), List.all_append, w_t4, w_t5]
  rfl
set_option maxRecDepth 65536 in
theorem w_rest : rest_1_c.before args0 about1 = true := by decide +kernel
set_option maxRecDepth 65536 in
theorem w_case : (Jvm.Cond.and given_1 narrow_1).before args0 about1 = true := by decide +kernel
set_option maxRecDepth 65536 in
theorem w_consts : constsHeld consts_1 about1 := Jvm.Lit.constsHeldB_iff.mp (by decide +kernel)
theorem w_applies : (headSpec (Jvm.Cond.code x code maxLocals ret :: tables_1) room_1).applies x e0.platform about1 = true :=
  (Spec.applies_iff w_frames).mpr ⟨w_running, w_runnable, w_alone, w_named, w_hears, w_ripe, w_room, w_tables⟩
theorem atStart : AtStart classFile x code maxLocals ret World_1 tables_1 room_1 Calls_1 rest_1 Pre_1 launch0 p0 e0 about1 theMethod args0 below0 :=
  ⟨lists_1, trivial, launch0.admits_env _ _ _, launch0.least_env, fairChoices_fair.cas, fairChoices_fair.clock, w_frames, w_args, w_heap, w_applies, ⟨w_consts, trivial⟩, w_rest, w_case⟩
end start1
theorem witness_1 : WitnessClaimed_1 := ⟨start1.p0, start1.e0, start1.about1, start1.theMethod, start1.args0, start1.below0, start1.atStart⟩
end Jvm.Pilot.@@N@@
