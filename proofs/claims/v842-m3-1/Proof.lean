import JvmDerived
import JvmDerived.Pilot.@@N@@Statement
import JvmDerived.Pilot.@@N@@Code
set_option linter.unusedVariables false
set_option linter.unusedSimpArgs false
namespace Jvm.Pilot.@@N@@
open Jvm Jvm.ClassFile Sem Op Lib Jvm.Free Jvm.Stand Jvm.LawKit Jvm.RoadKit Bundle Jvm.Pilot.@@N@@.Jvm.D
abbrev vI (x : Int32) : Slot := .val (.int x)
abbrev vR (x : Addr) : Slot := .val (.ref x)
abbrev own_r (a b c d : Nat) : Room := { frames := a, cells := b, slots := c, locals := d }
abbrev own_m0 : MethodName := ⟨"com/example/permgrid/permgrid/PercentEncoding", "encode", "([B)Ljava/lang/String;"⟩
abbrev own_m1 : MethodName := ⟨"com/example/permgrid/permgrid/PercentEncodingEncodePinLaw", "hex", "(I)C"⟩
abbrev own_m2 : MethodName := ⟨"com/example/permgrid/permgrid/PercentEncodingEncodePinLaw", "seg", "(Ljava/lang/String;II)I"⟩
abbrev own_m3 : MethodName := ⟨"com/example/permgrid/permgrid/PercentEncodingEncodePinLaw", "unreserved", "(I)Z"⟩
abbrev own_m4 : MethodName := ⟨"java/lang/AbstractStringBuilder", "<init>", "(I)V"⟩
abbrev own_m5 : MethodName := ⟨"java/lang/AbstractStringBuilder", "append", "(C)Ljava/lang/AbstractStringBuilder;"⟩
abbrev own_m6 : MethodName := ⟨"java/lang/AbstractStringBuilder", "ensureCapacityInternal", "(I)V"⟩
abbrev own_m7 : MethodName := ⟨"java/lang/AbstractStringBuilder", "getValue", "()[B"⟩
abbrev own_m8 : MethodName := ⟨"java/lang/AbstractStringBuilder", "isLatin1", "()Z"⟩
abbrev own_m9 : MethodName := ⟨"java/lang/AbstractStringBuilder", "length", "()I"⟩
abbrev own_m10 : MethodName := ⟨"java/lang/AbstractStringBuilder", "newCapacity", "(I)I"⟩
abbrev own_m11 : MethodName := ⟨"java/lang/Math", "max", "(II)I"⟩
abbrev own_m12 : MethodName := ⟨"java/lang/Math", "min", "(II)I"⟩
abbrev own_m13 : MethodName := ⟨"java/lang/String", "<init>", "(Ljava/lang/AbstractStringBuilder;Ljava/lang/Void;)V"⟩
abbrev own_m14 : MethodName := ⟨"java/lang/String", "<init>", "(Ljava/lang/StringBuilder;)V"⟩
abbrev own_m15 : MethodName := ⟨"java/lang/String", "charAt", "(I)C"⟩
abbrev own_m16 : MethodName := ⟨"java/lang/String", "checkIndex", "(II)V"⟩
abbrev own_m17 : MethodName := ⟨"java/lang/String", "coder", "()B"⟩
abbrev own_m18 : MethodName := ⟨"java/lang/String", "isLatin1", "()Z"⟩
abbrev own_m19 : MethodName := ⟨"java/lang/String", "length", "()I"⟩
abbrev own_m20 : MethodName := ⟨"java/lang/StringBuilder", "<init>", "(I)V"⟩
abbrev own_m21 : MethodName := ⟨"java/lang/StringBuilder", "append", "(C)Ljava/lang/StringBuilder;"⟩
abbrev own_m22 : MethodName := ⟨"java/lang/StringBuilder", "length", "()I"⟩
abbrev own_m23 : MethodName := ⟨"java/lang/StringBuilder", "toString", "()Ljava/lang/String;"⟩
abbrev own_m24 : MethodName := ⟨"java/lang/StringLatin1", "canEncode", "(C)Z"⟩
abbrev own_m25 : MethodName := ⟨"java/lang/StringLatin1", "charAt", "([BI)C"⟩
abbrev own_m26 : MethodName := ⟨"java/util/Arrays", "checkLength", "(II)V"⟩
abbrev own_m27 : MethodName := ⟨"java/util/Arrays", "copyOf", "([BI)[B"⟩
abbrev own_m28 : MethodName := ⟨"java/util/Arrays", "copyOfRange", "([BII)[B"⟩
abbrev own_m29 : MethodName := ⟨"java/util/Arrays", "copyOfRangeByte", "([BII)[B"⟩
abbrev own_m30 : MethodName := ⟨"jdk/internal/util/ArraysSupport", "newLength", "(III)I"⟩
abbrev own_m31 : MethodName := ⟨"jdk/internal/util/Preconditions", "checkIndex", "(IILjava/util/function/BiFunction;)I"⟩
theorem own_w (i : Nat) {d : Jvm.Cond} (h : tables_1[i]? = some d) : d ∈ tables_1 := List.mem_of_getElem? h
def own_Go (p : Program) (e : Env) (below : List Frame) (A B : State) : Prop := ∀ t, Steps p.tables e below B t → Steps p.tables e below A t
abbrev own_top {p : Program} {e : Env} {below : List Frame} {A T : State} {g : JFrame} (_ : own_Go p e below A (T.setTop g)) : JFrame := g
section OwnKit
variable {p : Program} {l : Launch} {e : Env} {R : Room} {s : State} {m : MethodId} {args : Array Value} {below : List Frame} {meth : Method} {c : Code} {T : State} {locs : List Loc} {cells slots : Nat}
theorem retI (X : Stand p l e R s m args below meth c T locs cells slots) (hx : p.tables.exec = Jvm.exec) {pc : Nat} {Ls : Array Slot} {z : Int32} {rest : List Value} (hret : meth.sig.returnType = some .int) (hd : decode c.code pc = .ok (.ireturn, 1)) {fs : List Frame}
    (hl : ∀ (f : JFrame) (acts : List Action), f.method = m → f.locked = none → f.entered = [] → (doReturn e (T.setTop f) acts (some (.int z))).1 = T.setFrames fs) : Steps p.tables e below (T.setTop (mkF m pc Ls (.int z :: rest))) (T.setFrames fs) :=
  retOut X hx hret rfl (Or.inl ⟨rfl, Or.inl rfl, z, rfl⟩) hd hl
theorem own_retR (X : Stand p l e R s m args below meth c T locs cells slots) (hx : p.tables.exec = Jvm.exec) {pc : Nat} {Ls : Array Slot} {w : Value} {t : FieldType} {rest : List Value} (hret : meth.sig.returnType = some t) (ht : t.isReference = true) (hw : w.isRef = true) (hd : decode c.code pc = .ok (.areturn, 1)) {fs : List Frame}
    (hl : ∀ (f : JFrame) (acts : List Action), f.method = m → f.locked = none → f.entered = [] → (doReturn e (T.setTop f) acts (some w)).1 = T.setFrames fs) : Steps p.tables e below (T.setTop (mkF m pc Ls (w :: rest))) (T.setFrames fs) :=
  retOut X hx hret (by cases t <;> cases w <;> simp_all [FieldType.isReference, Value.isRef, narrow]) (Or.inr (Or.inr (Or.inr (Or.inr ⟨rfl, ht, hw⟩)))) hd hl
end OwnKit

theorem own_eqI {args : Array Value} {first s : State} {o : Option Outcome} {idx : List Nat} {t : Term} {k : Int32} (h : (Jvm.Cond.eq t (.int k)).value args first o s idx = some true) : t.eval args first o idx s = some (.int k) := by
  obtain ⟨x, y, h1, h2, h3, h4⟩ := cmp_v (Or.inl h)
  obtain rfl : y = .int k := by simpa [Term.eval] using h2.symm
  obtain ⟨z, rfl⟩ := h4
  simp [Cond.value, h1, h2] at h
  subst h
  exact h1

theorem own_same {s : State} {args : Array Value} {C : String} {w y z : MethodName} (hyz : z.cls = y.cls) (hy : y.cls ≠ "java/lang/invoke/MethodHandle" ∧ y.cls ≠ "java/lang/invoke/VarHandle") (h0 : (Jvm.Cond.selects C w z).before args s = true) (hinst : (Jvm.Cond.instanceMethod y).before args s = true) :
    (Jvm.Cond.sameMethod y.cls y.cls y.name y.desc).before args s = true := by
  obtain ⟨c, r, m, -, -, hn, -, k, hk, hni⟩ := Cond.selects_spec h0
  obtain ⟨mk, methM, hnamed, hmethM, -, -⟩ := Cond.instanceMethod_spec hinst
  have hfound : s.methodFound? y.cls y.name y.desc = some mk := State.methodFound?_of_named hnamed hy
  have hc := findClass_of_methodNamed hnamed
  have hm : m.cls = mk.cls := Option.some.inj ((findClass_of_methodNamed hn).symm.trans (by rw [hyz]; exact hc))
  have hn' : s.methodNamed? ⟨y.cls, y.name, y.desc⟩ = some mk := hnamed
  rw [hm] at hk
  simp only [Cond.before, Cond.holds, Cond.value, hc, hfound, hn', hk]
  simp; exact hni
theorem own_notFace {s : State} {args : Array Value} {C : String} {w y z : MethodName} (hyz : z.cls = y.cls) (h0 : (Jvm.Cond.selects C w z).before args s = true) : NotFace s y := fun r0 hr => by
  obtain ⟨c, r, m, -, -, hn, -, k, hk, hni⟩ := Cond.selects_spec h0
  have hm : m.cls = r0.cls := Option.some.inj ((findClass_of_methodNamed hn).symm.trans (by rw [hyz]; exact findClass_of_methodNamed hr))
  exact ⟨k, by rw [← hm]; exact hk, hni⟩
theorem own_selPriv3 {s : State} {args : Array Value} {C : String} {y : MethodName} (hy : y.cls ≠ "java/lang/invoke/MethodHandle" ∧ y.cls ≠ "java/lang/invoke/VarHandle") (h0 : (Jvm.Cond.selects C y y).before args s = true) (hpriv : (Jvm.Cond.privateMethod y).before args s = true) (hinst : (Jvm.Cond.instanceMethod y).before args s = true) :
    (Jvm.Cond.selects y.cls y y).before args s = true := by
  obtain ⟨c, r, m, -, -, hn, -, k, hk, hni⟩ := Cond.selects_spec h0
  obtain ⟨mk, methM, hnamed, hmethM, -, -⟩ := Cond.instanceMethod_spec hinst
  cases hn.symm.trans hnamed
  have hfound : s.methodFound? y.cls y.name y.desc = some m := State.methodFound?_of_named hnamed hy
  have hc := findClass_of_methodNamed hnamed
  have hsel : selectMethod {} s.vm m.cls m = .method m := selectMethod_private hmethM (Cond.privateMethod_at hpriv m methM hnamed hmethM)
  simp only [Cond.before, Cond.holds, Cond.value, hc, hfound, hnamed, hsel, hk]
  simp; exact hni

theorem own_selPriv {s : State} {args : Array Value} {n : Nat} {y : MethodName} (hy : y.cls ≠ "java/lang/invoke/MethodHandle" ∧ y.cls ≠ "java/lang/invoke/VarHandle") (hins : (Jvm.Cond.instantiable y.cls n).before args s = true) (hpriv : (Jvm.Cond.privateMethod y).before args s = true) (hinst : (Jvm.Cond.instanceMethod y).before args s = true) :
    (Jvm.Cond.selects y.cls y y).before args s = true := by
  obtain ⟨c, k, hc, hk, -, hniab, -, -⟩ := Cond.instantiable_spec hins
  have hni : k.isInterface = false := (Bool.or_eq_false_iff.mp hniab).1
  obtain ⟨mk, methM, hnamed, hmethM, -, -⟩ := Cond.instanceMethod_spec hinst
  have hfound : s.methodFound? y.cls y.name y.desc = some mk := State.methodFound?_of_named hnamed hy
  have hcls : mk.cls = c := Option.some.inj ((findClass_of_methodNamed hnamed).symm.trans hc)
  have hsel : selectMethod {} s.vm c mk = .method mk := selectMethod_private hmethM (Cond.privateMethod_at hpriv mk methM hnamed hmethM)
  simp only [Cond.before, Cond.holds, Cond.value, hc, hfound, hnamed, hsel, hcls, hk]
  simp; exact hni
theorem own_selPriv2 {s : State} {args : Array Value} {y z : MethodName} (hyz : z.cls = y.cls) (hy : y.cls ≠ "java/lang/invoke/MethodHandle" ∧ y.cls ≠ "java/lang/invoke/VarHandle") (h0 : (Jvm.Cond.selects y.cls z z).before args s = true) (hpriv : (Jvm.Cond.privateMethod y).before args s = true) (hinst : (Jvm.Cond.instanceMethod y).before args s = true) :
    (Jvm.Cond.selects y.cls y y).before args s = true := by
  obtain ⟨c, r, m, hc, -, hn, -, k, hk, hni⟩ := Cond.selects_spec h0
  obtain ⟨mk, methM, hnamed, hmethM, -, -⟩ := Cond.instanceMethod_spec hinst
  have hfound : s.methodFound? y.cls y.name y.desc = some mk := State.methodFound?_of_named hnamed hy
  have hcls : mk.cls = c := Option.some.inj ((findClass_of_methodNamed hnamed).symm.trans hc)
  have hm : m.cls = c := Option.some.inj ((findClass_of_methodNamed hn).symm.trans (by rw [hyz]; exact hc))
  have hsel : selectMethod {} s.vm c mk = .method mk := selectMethod_private hmethM (Cond.privateMethod_at hpriv mk methM hnamed hmethM)
  rw [hm] at hk
  simp only [Cond.before, Cond.holds, Cond.value, hc, hfound, hnamed, hsel, hcls, hk]
  simp; exact hni

theorem own_since (s : State) (n : Nat) : s.Since s.vm n := (State.WarmedH.refl s).since n
theorem own_fc {s : State} {vm' : Vm} {own : String} {k : ClassId} (h : s.vm.findClass own = some k) (w : s.Warmed39 vm') : (s.setVm vm').vm.findClass own = some k := by
  rw [show (s.setVm vm').vm = vm' from rfl, w.alike.findClass]; exact h
theorem own_wideMono {s t : State} {o : Outcome} {L : List Loc} {k n k' n' : Nat} (h : ReturnedEndW s o t L k n) (hk : k ≤ k') (hn : n ≤ n') : ReturnedEndW s o t L k' n' := ⟨h.1, h.2.1, h.2.2.1, h.2.2.2.mono hk hn⟩

theorem own_strAtoms (a0 : Array Value) (Z : State) (hw : ∀ d ∈ tables_1, d.before a0 Z = true) : ∀ a ∈ Bundle.stringAtoms, a.before a0 Z = true := by
  intro a ha
  simp only [Bundle.stringAtoms, List.mem_cons, List.not_mem_nil, or_false] at ha
  rcases ha with rfl | rfl | rfl | rfl | rfl | rfl | rfl
  · exact (hw _ (own_w 21 rfl))
  · exact (hw _ (own_w 32 rfl))
  · exact (hw _ (own_w 0 rfl))
  · exact (hw _ (own_w 78 rfl))
  · exact (hw _ (own_w 63 rfl))
  · exact (hw _ (own_w 110 rfl))
  · exact (hw _ (own_w 111 rfl))

def own_EL : List (String × Nat) := [("com/example/permgrid/permgrid/PercentEncoding", 108)]
theorem own_ht0 : (∀ c ∈ "0123456789ABCDEF".toList, c.toNat < 256) ∧ "0123456789ABCDEF".toList.map (fun c => Value.int (Jvm.Lit.byteI c.toNat.toUInt16)) = [.int 48, .int 49, .int 50, .int 51, .int 52, .int 53, .int 54, .int 55, .int 56, .int 57, .int 65, .int 66, .int 67, .int 68, .int 69, .int 70] := ⟨by first | decide +kernel | simp, by first | rfl | decide +kernel | simp⟩
theorem own_EW (a0 : Array Value) (Z : State) (hw : ∀ d ∈ tables_1, d.before a0 Z = true) : EW Z a0 own_EL := EW.cons (hw _ (own_w 109 rfl)) own_ht0.1 EW.nil
theorem own_ELsub : ∀ q ∈ own_EL, q ∈ consts_1 := by decide
section OwnHeld
variable {p : Program} {l : Launch} {e : Env} {R : Room} {s : State} {args : Array Value} {below : List Frame} {Z : State} {a0 : Array Value} {EL : List (String × Nat)} {h : Heap} {vm0 : Vm}
theorem own_backH {y : MethodName} {bytes : ByteArray} {maxL : Nat} {ret : Option FieldType} {rm : Room} {len W : Nat} {as' : Array Value} {SF : List Addr} {Q : Option Value → Heap → List Loc → Prop}
    (hM : MetFree l y (head1 [Jvm.Cond.code y bytes maxL ret] rm) (fun a U => a = as' ∧ Z.Warmed39 U.vm ∧ U.heap = h ∧ CHv Z EL U.vm h ∧ ∀ x ∈ SF, Safe Z EL U.vm h x) (fun _ _ _ _ _ => True) (fun _ U o U' => ∃ v L, o = .returned v ∧ Q v U'.heap L ∧ CHr Z EL U.vm U.heap U'.vm U'.heap ∧ ReturnedEndW U o U' L rm.cells rm.slots))
    (hZ : Z.Warmed39 vm0) (wc : (Jvm.Cond.code y bytes maxL ret).before a0 Z = true) (wz : (Jvm.Cond.initialized y.cls).before a0 Z = true) (hf : rm.frames + 1 ≤ R.frames) (hl : W + (maxL + 11) + rm.locals ≤ R.locals) (hEL : EW Z a0 EL) (H : CHv Z EL vm0 h) (hs : ∀ x ∈ SF, Safe Z EL vm0 h x) (hlt : ∀ x ∈ SF, x < h.size) :
    BackS l R p e below (s.setVm vm0) args y len W (fun A a => a = as' ∧ A.U.heap = h ∧ A.cells + rm.cells ≤ R.cells ∧ A.slots + rm.slots ≤ R.slots)
      (fun A _ v B => ∃ L, Q v B.U.heap L ∧ B.locs = A.locs ++ L ∧ B.cells = A.cells + rm.cells ∧ B.slots = A.slots + rm.slots ∧ CHr Z EL vm0 h B.U.vm B.U.heap) :=
  BackS.of_freeW (bytes := bytes) (maxL := maxL) (ret := ret) (E := fun _ first o t L k n => k = rm.cells ∧ n = rm.slots ∧ (∃ v, o = .returned v ∧ Q v t.heap L) ∧ CHr Z EL first.vm first.heap t.vm t.heap) hM hf hl
    (fun m meth c A a Y hp => have hU : Z.Warmed39 A.U.vm := wtrans (s := s.setVm vm0) hZ Y.warmed
      ⟨by show (Jvm.Cond.and _ .tt).before a A.U = true; rw [Cond.before_and, mv hU wc]; rfl, mv hU wc, mv hU wz, hp.2.2.1, hp.2.2.2⟩)
    (fun m meth c A a g mk Y hp => ⟨hp.1, wtrans (s := s.setVm vm0) hZ Y.warmed, hp.2.1, (CHv.at Y hZ hEL H).1, fun x hx => (CHv.at Y hZ hEL H).safe (hlt x hx) (hs x hx)⟩) (fun _ _ _ _ _ _ _ _ _ => trivial)
    (fun _ _ _ _ ⟨v, L, h1, h2, h3, h4⟩ => ⟨L, _, _, h4, rfl, rfl, ⟨v, h1, h2⟩, h3⟩)
    (fun m meth c A a g mk v t L k n Y hp _ _ ⟨e1, e2, ⟨v', e3, e4⟩, e5⟩ => by
      cases e3; subst e1 e2
      refine ⟨L, e4, rfl, rfl, rfl, (CHv.at Y hZ hEL H).trans ?_⟩
      rw [← hp.2.1]; exact e5)
end OwnHeld

def own_SC (Z : State) (wC : Int32) : Prop := Sta Z Z.heap "java/lang/String" "COMPACT_STRINGS" "Z" (.int wC) ∧ ¬ wC = (0 : Int32)
def own_SU (Z : State) : Prop := Sta Z Z.heap "java/lang/StringUTF16" "$assertionsDisabled" "Z" (.int 1) ∧ Sta Z Z.heap "java/lang/StringUTF16" "HI_BYTE_SHIFT" "I" (.int 0) ∧ Sta Z Z.heap "java/lang/StringUTF16" "LO_BYTE_SHIFT" "I" (.int 8)
def own_SF (Z : State) (wF : Value) : Prop := Sta Z Z.heap "jdk/internal/util/Preconditions" "SIOOBE_FORMATTER" "Ljava/util/function/BiFunction;" wF ∧ wF.isRef = true

def own_lb (c : Int32) : Value := .int (nar .byte (c.toInt8.toInt32))
def own_hb (c : Int32) : Value := .int (nar .byte ((c >>> ((0 : Int32) &&& 31)).toInt8.toInt32))
def own_gb (c : Int32) : Value := .int (nar .byte ((c >>> ((8 : Int32) &&& 31)).toInt8.toInt32))
def own_ub : List Int32 → List Value
  | [] => []
  | c :: cs => own_hb c :: own_gb c :: own_ub cs
def own_len (cs : List Int32) : Int32 := Int32.ofNat cs.length
def own_len2 (cs : List Int32) : Int32 := Int32.ofNat (2 * cs.length)
def own_Lat : List Int32 → Prop
  | [] => True
  | c :: cs => (0 ≤ c.toInt ∧ c.toInt < 256) ∧ own_Lat cs
def own_Chr : List Int32 → Prop
  | [] => True
  | c :: cs => (0 ≤ c.toInt ∧ c.toInt < 65536) ∧ own_Chr cs
theorem own_ltOf {c : Int32} (h : ¬ (255 : Int32) < c) : c.toInt < 256 := by
  rw [Int32.lt_iff_toInt_lt, show (255 : Int32).toInt = 255 from rfl] at h
  omega
theorem own_fitAt {Z : State} {h : Heap} {a : Addr} {k : ClassId} {z c : Int32} {vs : List Value} {d : Value} (F : Arv Z h a k .char z vs d) (i : Nat) (hi : i < z.toNatClampNeg) (e : vs.getD i d = .int c) : 0 ≤ c.toInt ∧ c.toInt < 65536 := by
  obtain ⟨cl, -, -, S, -, -, G⟩ := F
  have q := G i (by rw [S]; exact hi)
  rw [e] at q
  have r := rng_char q
  rw [Int32.lt_iff_toInt_lt, Int32.lt_iff_toInt_lt, show (0 : Int32).toInt = 0 from rfl, show (65535 : Int32).toInt = 65535 from rfl] at r
  omega
def own_Str (Z : State) (h : Heap) (a vb : Addr) (kb : ClassId) (cs : List Int32) : Prop :=
  Exa Z h a "java/lang/String" ∧ Fld Z h a "java/lang/String" "value" "[B" (.ref vb) ∧
    ((Fld Z h a "java/lang/String" "coder" "B" (.int 0) ∧ own_Lat cs ∧ Arv Z h vb kb .byte (own_len cs) (cs.map own_lb) (.int 0)) ∨
     (Fld Z h a "java/lang/String" "coder" "B" (.int 1) ∧ own_Chr cs ∧ Arv Z h vb kb .byte (own_len2 cs) (own_ub cs) (.int 0)))
theorem own_Str.ext {Z : State} {h h' : Heap} {a vb : Addr} {kb : ClassId} {cs : List Int32} (F : own_Str Z h a vb kb cs) (E : Ext h h') : own_Str Z h' a vb kb cs := by
  obtain ⟨h1, h2, ⟨h3, h4, h5⟩ | ⟨h3, h4, h5⟩⟩ := F
  · exact ⟨h1.ext E, h2.ext E, Or.inl ⟨h3.ext E, h4, h5.ext E⟩⟩
  · exact ⟨h1.ext E, h2.ext E, Or.inr ⟨h3.ext E, h4, h5.ext E⟩⟩
theorem own_Str.keep {Z : State} {h h' : Heap} {a vb : Addr} {kb : ClassId} {cs : List Int32} {ws : List Addr} (F : own_Str Z h a vb kb cs) (K : Keep h h' ws) (n1 : a ∉ ws) (n2 : vb ∉ ws) : own_Str Z h' a vb kb cs := by
  obtain ⟨h1, h2, ⟨h3, h4, h5⟩ | ⟨h3, h4, h5⟩⟩ := F
  · exact ⟨h1.keep K, h2.keep K n1, Or.inl ⟨h3.keep K n1, h4, h5.keep K n2⟩⟩
  · exact ⟨h1.keep K, h2.keep K n1, Or.inr ⟨h3.keep K n1, h4, h5.keep K n2⟩⟩
theorem own_Str.lt0 {Z : State} {h : Heap} {a vb : Addr} {kb : ClassId} {cs : List Int32} (F : own_Str Z h a vb kb cs) : a < h.size := F.1.lt
theorem own_Str.lt1 {Z : State} {h : Heap} {a vb : Addr} {kb : ClassId} {cs : List Int32} (F : own_Str Z h a vb kb cs) : vb < h.size := by
  obtain ⟨h1, h2, ⟨h3, h4, h5⟩ | ⟨h3, h4, h5⟩⟩ := F
  · exact h5.lt
  · exact h5.lt
def own_gc (b0 b1 : Int32) : Int32 := nar .char ((((b0 &&& (255 : Int32)) <<< ((0 : Int32) &&& 31)) ||| ((b1 &&& (255 : Int32)) <<< ((8 : Int32) &&& 31))).toUInt32.toUInt16.toUInt32.toInt32)
def own_lc (u : Int32) : Int32 := nar .char ((u &&& (255 : Int32)).toUInt32.toUInt16.toUInt32.toInt32)
theorem own_narByte (x : Int32) : ((nar .byte x).toInt - x.toInt) % 256 = 0 := by
  have h := (c_i2b x).1
  show (x.toInt8.toInt32.toInt - x.toInt) % 256 = 0
  exact h
theorem own_narChar (x : Int32) (h0 : 0 ≤ x.toInt) (h1 : x.toInt < 65536) : nar .char x = x := by
  show x.toUInt32.toUInt16.toUInt32.toInt32 = x
  have h := c_i2c x
  exact Int32.toInt_inj.mp (by omega)
theorem own_i2c (x : Int32) (h0 : 0 ≤ x.toInt) (h1 : x.toInt < 65536) : x.toUInt32.toUInt16.toUInt32.toInt32 = x := own_narChar x h0 h1
theorem own_latget (c : Int32) (h : 0 ≤ c.toInt ∧ c.toInt < 256) : own_lc (nar .byte (c.toInt8.toInt32)) = c := by
  have h1 := own_narByte (c.toInt8.toInt32)
  have h2 := (c_i2b c).1
  have h3 := c_mask (nar .byte (c.toInt8.toInt32)) 255 8 (by decide) (by decide)
  have e : (nar .byte (c.toInt8.toInt32)) &&& (255 : Int32) = c := Int32.toInt_inj.mp (by omega)
  unfold own_lc
  rw [e, own_i2c c h.1 (by omega), own_narChar c h.1 (by omega)]
theorem own_utfget (c : Int32) (h : 0 ≤ c.toInt ∧ c.toInt < 65536) : own_gc (nar .byte ((c >>> ((0 : Int32) &&& 31)).toInt8.toInt32)) (nar .byte ((c >>> ((8 : Int32) &&& 31)).toInt8.toInt32)) = c := by
  have s0 := c_ishr c 0 0 (by decide)
  have s8 := c_ishr c 8 8 (by decide)
  have a1 := own_narByte ((c >>> ((0 : Int32) &&& 31)).toInt8.toInt32)
  have a2 := (c_i2b (c >>> ((0 : Int32) &&& 31))).1
  have b1 := own_narByte ((c >>> ((8 : Int32) &&& 31)).toInt8.toInt32)
  have b2 := (c_i2b (c >>> ((8 : Int32) &&& 31))).1
  unfold own_gc
  generalize nar .byte ((c >>> ((0 : Int32) &&& 31)).toInt8.toInt32) = x at *
  generalize nar .byte ((c >>> ((8 : Int32) &&& 31)).toInt8.toInt32) = y at *
  have m1 := c_mask x 255 8 (by decide) (by decide)
  have m2 := c_mask y 255 8 (by decide) (by decide)
  have t1 := c_ishl (x &&& 255) 0 0 (by decide)
  have t2 := c_ishl (y &&& 255) 8 8 (by decide)
  generalize (c >>> ((0 : Int32) &&& 31)).toInt8.toInt32 = u at *
  generalize (c >>> ((8 : Int32) &&& 31)).toInt8.toInt32 = v at *
  have r1 := rng32 ((x &&& 255) <<< ((0 : Int32) &&& 31))
  have r2 := rng32 ((y &&& 255) <<< ((8 : Int32) &&& 31))
  have r3 := rng32 (((x &&& 255) <<< ((0 : Int32) &&& 31)) ||| ((y &&& 255) <<< ((8 : Int32) &&& 31)))
  have o := c_or' ((x &&& 255) <<< ((0 : Int32) &&& 31)) ((y &&& 255) <<< ((8 : Int32) &&& 31)) 8 (by decide) 256 (by decide) (by omega) (by omega) (by omega)
  have e : ((x &&& 255) <<< ((0 : Int32) &&& 31)) ||| ((y &&& 255) <<< ((8 : Int32) &&& 31)) = c := Int32.toInt_inj.mp (by omega)
  rw [e, own_i2c c h.1 h.2, own_narChar c h.1 h.2]

theorem own_lenI (cs : List Int32) (h : cs.length < 1000) : (own_len cs).toInt = cs.length := by
  unfold own_len
  exact Int32.toInt_ofNat_small (by omega)
theorem own_lenI2 (cs : List Int32) (h : cs.length < 1000) : (own_len2 cs).toInt = 2 * cs.length := by
  unfold own_len2
  rw [Int32.toInt_ofNat_small (by omega)]
  omega
theorem own_lenL (cs : List Int32) : (own_len cs) >>> ((0 : Int32) &&& 31) = own_len cs := by
  have e := c_ishr (own_len cs) 0 0 (by decide)
  exact Int32.toInt_inj.mp (by omega)
theorem own_lenU (cs : List Int32) (h : cs.length < 1000) : (own_len2 cs) >>> ((1 : Int32) &&& 31) = own_len cs := by
  have e := c_ishr (own_len2 cs) 1 1 (by decide)
  have a := own_lenI cs h
  have b := own_lenI2 cs h
  exact Int32.toInt_inj.mp (by omega)
theorem own_ix {p : Int32} {cs : List Int32} (h : cs.length < 1000) (h1 : ¬ p < (0 : Int32)) (h2 : p < own_len cs) : 0 ≤ p.toInt ∧ p.toInt < cs.length ∧ p.toNatClampNeg = p.toInt.toNat := by
  rw [Int32.lt_iff_toInt_lt, own_lenI cs h] at h2
  rw [Int32.lt_iff_toInt_lt, show (0 : Int32).toInt = 0 from rfl] at h1
  exact ⟨by omega, h2, rfl⟩
theorem own_ixn {p : Int32} {cs : List Int32} (h : cs.length < 1000) (h1 : ¬ p < (0 : Int32)) (h2 : p < own_len cs) : p.toNatClampNeg < cs.length := by
  obtain ⟨a, b, e⟩ := own_ix h h1 h2
  rw [e]; omega
theorem own_getLat {p c : Int32} {cs : List Int32} (h : cs.length < 1000) (h1 : ¬ p < (0 : Int32)) (h2 : p < own_len cs) (hc : cs.getD p.toNatClampNeg 0 = c) : (cs.map own_lb).getD p.toNatClampNeg (.int 0) = .int (nar .byte (c.toInt8.toInt32)) := by
  have k := own_ixn h h1 h2
  subst hc
  simp [own_lb, k]
theorem own_ubAt : ∀ (cs : List Int32) (k : Nat), k < cs.length → (own_ub cs).getD (2 * k) (.int 0) = own_hb (cs.getD k 0) ∧ (own_ub cs).getD (2 * k + 1) (.int 0) = own_gb (cs.getD k 0)
  | [], k, h => absurd h (Nat.not_lt_zero k)
  | c :: cs, 0, _ => ⟨rfl, rfl⟩
  | c :: cs, k + 1, h => by
    have ih := own_ubAt cs k (Nat.lt_of_succ_lt_succ h)
    rw [show 2 * (k + 1) = 2 * k + 1 + 1 from by omega]
    exact ⟨ih.1, ih.2⟩
theorem own_LatAt : ∀ (cs : List Int32) (k : Nat), own_Lat cs → k < cs.length → 0 ≤ (cs.getD k 0).toInt ∧ (cs.getD k 0).toInt < 256
  | [], k, _, q => absurd q (Nat.not_lt_zero k)
  | c :: cs, 0, h, _ => h.1
  | c :: cs, k + 1, h, q => own_LatAt cs k h.2 (Nat.lt_of_succ_lt_succ q)
theorem own_ChrAt : ∀ (cs : List Int32) (k : Nat), own_Chr cs → k < cs.length → 0 ≤ (cs.getD k 0).toInt ∧ (cs.getD k 0).toInt < 65536
  | [], k, _, q => absurd q (Nat.not_lt_zero k)
  | c :: cs, 0, h, _ => h.1
  | c :: cs, k + 1, h, q => own_ChrAt cs k h.2 (Nat.lt_of_succ_lt_succ q)
theorem own_J {p : Int32} {cs : List Int32} (h : cs.length < 1000) (h1 : ¬ p < (0 : Int32)) (h2 : p < own_len cs) :
    (p <<< ((1 : Int32) &&& 31)).toInt = 2 * p.toInt ∧ ((p <<< ((1 : Int32) &&& 31)) + (1 : Int32)).toInt = 2 * p.toInt + 1 := by
  obtain ⟨a, b, e⟩ := own_ix h h1 h2
  have s := c_ishl p 1 1 (by decide)
  have r := rng32 (p <<< ((1 : Int32) &&& 31))
  have t := c_iadd (p <<< ((1 : Int32) &&& 31)) 1
  have r2 := rng32 ((p <<< ((1 : Int32) &&& 31)) + 1)
  rw [show (1 : Int32).toInt = 1 from rfl] at t
  exact ⟨by omega, by omega⟩
theorem own_Jb {p : Int32} {cs : List Int32} (h : cs.length < 1000) (h1 : ¬ p < (0 : Int32)) (h2 : p < own_len cs) :
    (¬ (p <<< ((1 : Int32) &&& 31)) < (0 : Int32)) ∧ ((p <<< ((1 : Int32) &&& 31)) < own_len2 cs) ∧ (¬ ((p <<< ((1 : Int32) &&& 31)) + (1 : Int32)) < (0 : Int32)) ∧ (((p <<< ((1 : Int32) &&& 31)) + (1 : Int32)) < own_len2 cs) ∧
      (p <<< ((1 : Int32) &&& 31)).toNatClampNeg = 2 * p.toNatClampNeg ∧ ((p <<< ((1 : Int32) &&& 31)) + (1 : Int32)).toNatClampNeg = 2 * p.toNatClampNeg + 1 ∧ p < ((own_len2 cs) >>> ((1 : Int32) &&& 31)) := by
  have j := own_J h h1 h2
  have b2 := own_lenI2 cs h
  obtain ⟨a, b, e⟩ := own_ix h h1 h2
  have e0 : (0 : Int32).toInt = 0 := rfl
  refine ⟨?_, ?_, ?_, ?_, ?_, ?_, ?_⟩
  · rw [Int32.lt_iff_toInt_lt, e0]; omega
  · rw [Int32.lt_iff_toInt_lt]; omega
  · rw [Int32.lt_iff_toInt_lt, e0]; omega
  · rw [Int32.lt_iff_toInt_lt]; omega
  · simp only [Int32.toNatClampNeg]; omega
  · simp only [Int32.toNatClampNeg]; omega
  · rw [own_lenU cs h]; exact h2
theorem own_getU {p c : Int32} {cs : List Int32} (h : cs.length < 1000) (h1 : ¬ p < (0 : Int32)) (h2 : p < own_len cs) (hc : cs.getD p.toNatClampNeg 0 = c) : (own_ub cs).getD (2 * p.toNatClampNeg) (.int 0) = .int (nar .byte ((c >>> ((0 : Int32) &&& 31)).toInt8.toInt32)) ∧ (own_ub cs).getD (2 * p.toNatClampNeg + 1) (.int 0) = .int (nar .byte ((c >>> ((8 : Int32) &&& 31)).toInt8.toInt32)) := by
  have q := own_ubAt cs p.toNatClampNeg (own_ixn h h1 h2)
  rw [hc] at q
  exact q

def own_StrL (Z : State) (h : Heap) (a vb : Addr) (kb : ClassId) (cs : List Int32) : Prop :=
  Exa Z h a "java/lang/String" ∧ Fld Z h a "java/lang/String" "value" "[B" (.ref vb) ∧ Fld Z h a "java/lang/String" "coder" "B" (.int 0) ∧ Arv Z h vb kb .byte (own_len cs) (cs.map own_lb) (.int 0)
theorem own_StrL.ext {Z : State} {h h' : Heap} {a vb : Addr} {kb : ClassId} {cs : List Int32} (F : own_StrL Z h a vb kb cs) (E : Ext h h') : own_StrL Z h' a vb kb cs := ⟨F.1.ext E, F.2.1.ext E, F.2.2.1.ext E, F.2.2.2.ext E⟩
theorem own_StrL.keep {Z : State} {h h' : Heap} {a vb : Addr} {kb : ClassId} {cs : List Int32} {ws : List Addr} (F : own_StrL Z h a vb kb cs) (K : Keep h h' ws) (n1 : a ∉ ws) (n2 : vb ∉ ws) : own_StrL Z h' a vb kb cs := ⟨F.1.keep K, F.2.1.keep K n1, F.2.2.1.keep K n1, F.2.2.2.keep K n2⟩
theorem own_StrL.lt0 {Z : State} {h : Heap} {a vb : Addr} {kb : ClassId} {cs : List Int32} (F : own_StrL Z h a vb kb cs) : a < h.size := F.1.lt
theorem own_StrL.lt1 {Z : State} {h : Heap} {a vb : Addr} {kb : ClassId} {cs : List Int32} (F : own_StrL Z h a vb kb cs) : vb < h.size := F.2.2.2.lt
theorem own_lcN (u : Int32) : nar .char (own_lc u) = own_lc u := by
  have h := c_i2c ((u &&& (255 : Int32)).toUInt32.toUInt16.toUInt32.toInt32)
  exact own_narChar _ h.2.1 h.2.2

theorem d26_0 : decode jdk_29_method_65_code 0 = .ok (.iload_n 0, 1) := by decide +kernel
theorem d26_1 : decode jdk_29_method_65_code 1 = .ok (.iload_n 1, 1) := by decide +kernel
theorem d26_2 : decode jdk_29_method_65_code 2 = .ok (.if_icmp .lt 7, 3) := by decide +kernel
theorem d26_5 : decode jdk_29_method_65_code 5 = .ok (.iload_n 0, 1) := by decide +kernel
theorem d26_6 : decode jdk_29_method_65_code 6 = .ok (.goto 4, 3) := by decide +kernel
theorem d26_9 : decode jdk_29_method_65_code 9 = .ok (.iload_n 1, 1) := by decide +kernel
theorem d26_10 : decode jdk_29_method_65_code 10 = .ok (.ireturn, 1) := by decide +kernel
theorem ef_26 (m : MethodId) (x0 : Int32) (x1 : Int32) : entryFrame m #[(.int x0), (.int x1)] 2 = mkF m 0 #[vI x0, vI x1] [] := by first | (simp [entryFrame, mkF, argsToLocals, Value.category]; done) | rfl
def own_mx (p1 : Int32) (p2 : Int32) : Int32 := (if p1 < p2 then p2 else p1)
def Q26 (Z : State) (p1 : Int32) (p2 : Int32) (h0 : Heap) (n0 : Nat) (v : Option Value) (h : Heap) (L : List Loc) : Prop := v = (some (.int (own_mx p1 p2))) ∧ Fr n0 L ∧ h = h0
set_option maxRecDepth 65536 in
set_option maxHeartbeats 40000000 in
theorem rm26 (l : Launch) (Z : State) (a0 : Array Value) (hw : ∀ d ∈ tables_1, d.before a0 Z = true) (ws : List Jvm.Cond) (p1 : Int32) (p2 : Int32) (h0 : Heap) (n0 : Nat) (Z0 : n0 ≤ h0.size) :
  MetFree l own_m11 (head1 (Jvm.Cond.code own_m11 jdk_29_method_65_code 2 (some .int) :: ws) (own_r 0 0 0 0)) (fun a U => a = #[(.int p1), (.int p2)] ∧ Z.Warmed39 U.vm ∧ U.heap = h0) (fun _ _ _ _ _ => True) (fun _ U o U' => ∃ v L, o = .returned v ∧ Q26 Z p1 p2 h0 n0 v U'.heap L ∧ FrameEnd U o U' L (own_r 0 0 0 0).cells (own_r 0 0 0 0).slots) := by
 refine MetFree.of_bodySF (Jvm.Free.JP.mathPlain rfl (by decide +kernel)) hisR ?_
 intro p e s m args below meth c s₁ Bd hml0 hP hK
 have H : ∀ (i : Nat) {d : Jvm.Cond}, tables_1[i]? = some d → d.before a0 Z = true := fun i _ h => hw _ (own_w i h)
 obtain ⟨rfl, hZ, hh⟩ := hP
 have hx := Bd.exec
 have hby := Bd.bytes
 have hml : c.maxLocals = 2 := hml0
 have hown0 := findClass_of_methodNamed Bd.named
 have hown : s.vm.findClass "java/lang/Math" = some m.cls := hown0
 have hnm := (name_of_methodNamed Bd.named Bd.method).1
 have X0 : Stand p l e (own_r 0 0 0 0) s m #[(.int p1), (.int p2)] below meth c s₁ [] 0 0 := Stand.of_body Bd
 have e0 : s₁.heap = h0 := by rw [← hh, Bd.state]; rfl
 have N0 := Fr.nil n0
 obtain ⟨S0, hS0⟩ : ∃ z, z = s₁.setTop (entryFrame m #[(.int p1), (.int p2)] 2) := ⟨_, rfl⟩
 have pre0 : own_Go p e below S0 (s₁.setTop (mkF m 0 #[vI p1, vI p2] [])) := fun t k => by rw [hS0]; exact castTop (ef_26 m p1 p2) k
 have fin : ∀ t, Steps p.tables e below S0 t → Steps p.tables e below (s₁.setTop (entryFrame m #[(.int p1), (.int p2)] 2)) t := fun t k => by rw [hS0] at k; exact k
 have pre2 : own_Go p e below S0 (s₁.setTop (mkF m 2 #[vI p1, vI p2] [(.int p2), (.int p1)])) := by
  intro t kt
  refine pre0 t ?_
  refine XS.iloadN X0.here hx rfl (hb hby d26_0) rfl ?_
  refine XS.iloadN X0.here hx rfl (hb hby d26_1) rfl ?_
  exact kt
 by_cases hc1 : p1 < p2
 ·have pre3 : own_Go p e below S0 (s₁.setTop (mkF m 10 #[vI p1, vI p2] [(.int p2)])) := by
   intro t kt
   refine pre2 t ?_
   refine XS.icmpYes X0.here hx rfl (pc0 := 2) (pc' := 9) rfl (hb hby d26_2) rfl (tlt hc1).1 (by decide) (by decide) ?_
   refine XS.iloadN X0.here hx rfl (hb hby d26_9) rfl ?_
   exact kt
  obtain ⟨fs, hr, hrun, hended, hW, hsame⟩ := X0.leave (v := some (.int p2)) (fun h => by rw [Bd.returns] at h; cases h)
  refine ⟨_, _, fin _ (pre3 _ ?_), hrun, hended, _, _, rfl, ?_, ⟨_, rfl⟩, hW, hsame.mono (by decide) (by decide)⟩
  ·exact retI X0 hx Bd.returns (hb hby d26_10) hr
  ·show Q26 Z p1 p2 h0 n0 _ s₁.heap _
   rw [e0]
   exact ⟨(by show some _ = some _; rw [own_mx, if_pos hc1]), N0, rfl⟩
 ·have pre4 : own_Go p e below S0 (s₁.setTop (mkF m 10 #[vI p1, vI p2] [(.int p1)])) := by
   intro t kt
   refine pre2 t ?_
   refine XS.icmpNo X0.here hx rfl (hb hby d26_2) rfl (flt hc1).1 ?_
   refine XS.iloadN X0.here hx rfl (hb hby d26_5) rfl ?_
   refine XS.goto X0.here hx rfl (pc0 := 6) (pc' := 10) rfl (hb hby d26_6) (by decide) (by decide) ?_
   exact kt
  obtain ⟨fs, hr, hrun, hended, hW, hsame⟩ := X0.leave (v := some (.int p1)) (fun h => by rw [Bd.returns] at h; cases h)
  refine ⟨_, _, fin _ (pre4 _ ?_), hrun, hended, _, _, rfl, ?_, ⟨_, rfl⟩, hW, hsame.mono (by decide) (by decide)⟩
  ·exact retI X0 hx Bd.returns (hb hby d26_10) hr
  ·show Q26 Z p1 p2 h0 n0 _ s₁.heap _
   rw [e0]
   exact ⟨(by show some _ = some _; rw [own_mx, if_neg hc1]), N0, rfl⟩

theorem d28_0 : decode jdk_29_method_69_code 0 = .ok (.iload_n 0, 1) := by decide +kernel
theorem d28_1 : decode jdk_29_method_69_code 1 = .ok (.iload_n 1, 1) := by decide +kernel
theorem d28_2 : decode jdk_29_method_69_code 2 = .ok (.if_icmp .gt 7, 3) := by decide +kernel
theorem d28_5 : decode jdk_29_method_69_code 5 = .ok (.iload_n 0, 1) := by decide +kernel
theorem d28_6 : decode jdk_29_method_69_code 6 = .ok (.goto 4, 3) := by decide +kernel
theorem d28_9 : decode jdk_29_method_69_code 9 = .ok (.iload_n 1, 1) := by decide +kernel
theorem d28_10 : decode jdk_29_method_69_code 10 = .ok (.ireturn, 1) := by decide +kernel
theorem ef_28 (m : MethodId) (x0 : Int32) (x1 : Int32) : entryFrame m #[(.int x0), (.int x1)] 2 = mkF m 0 #[vI x0, vI x1] [] := by first | (simp [entryFrame, mkF, argsToLocals, Value.category]; done) | rfl
def own_mn (p1 : Int32) (p2 : Int32) : Int32 := (if p2 < p1 then p2 else p1)
def Q28 (Z : State) (p1 : Int32) (p2 : Int32) (h0 : Heap) (n0 : Nat) (v : Option Value) (h : Heap) (L : List Loc) : Prop := v = (some (.int (own_mn p1 p2))) ∧ Fr n0 L ∧ h = h0
set_option maxRecDepth 65536 in
set_option maxHeartbeats 40000000 in
theorem rm28 (l : Launch) (Z : State) (a0 : Array Value) (hw : ∀ d ∈ tables_1, d.before a0 Z = true) (ws : List Jvm.Cond) (p1 : Int32) (p2 : Int32) (h0 : Heap) (n0 : Nat) (Z0 : n0 ≤ h0.size) :
  MetFree l own_m12 (head1 (Jvm.Cond.code own_m12 jdk_29_method_69_code 2 (some .int) :: ws) (own_r 0 0 0 0)) (fun a U => a = #[(.int p1), (.int p2)] ∧ Z.Warmed39 U.vm ∧ U.heap = h0) (fun _ _ _ _ _ => True) (fun _ U o U' => ∃ v L, o = .returned v ∧ Q28 Z p1 p2 h0 n0 v U'.heap L ∧ FrameEnd U o U' L (own_r 0 0 0 0).cells (own_r 0 0 0 0).slots) := by
 refine MetFree.of_bodySF (Jvm.Free.JP.mathPlain rfl (by decide +kernel)) hisR ?_
 intro p e s m args below meth c s₁ Bd hml0 hP hK
 have H : ∀ (i : Nat) {d : Jvm.Cond}, tables_1[i]? = some d → d.before a0 Z = true := fun i _ h => hw _ (own_w i h)
 obtain ⟨rfl, hZ, hh⟩ := hP
 have hx := Bd.exec
 have hby := Bd.bytes
 have hml : c.maxLocals = 2 := hml0
 have hown0 := findClass_of_methodNamed Bd.named
 have hown : s.vm.findClass "java/lang/Math" = some m.cls := hown0
 have hnm := (name_of_methodNamed Bd.named Bd.method).1
 have X0 : Stand p l e (own_r 0 0 0 0) s m #[(.int p1), (.int p2)] below meth c s₁ [] 0 0 := Stand.of_body Bd
 have e0 : s₁.heap = h0 := by rw [← hh, Bd.state]; rfl
 have N0 := Fr.nil n0
 obtain ⟨S0, hS0⟩ : ∃ z, z = s₁.setTop (entryFrame m #[(.int p1), (.int p2)] 2) := ⟨_, rfl⟩
 have pre0 : own_Go p e below S0 (s₁.setTop (mkF m 0 #[vI p1, vI p2] [])) := fun t k => by rw [hS0]; exact castTop (ef_28 m p1 p2) k
 have fin : ∀ t, Steps p.tables e below S0 t → Steps p.tables e below (s₁.setTop (entryFrame m #[(.int p1), (.int p2)] 2)) t := fun t k => by rw [hS0] at k; exact k
 have pre2 : own_Go p e below S0 (s₁.setTop (mkF m 2 #[vI p1, vI p2] [(.int p2), (.int p1)])) := by
  intro t kt
  refine pre0 t ?_
  refine XS.iloadN X0.here hx rfl (hb hby d28_0) rfl ?_
  refine XS.iloadN X0.here hx rfl (hb hby d28_1) rfl ?_
  exact kt
 by_cases hc1 : p2 < p1
 ·have pre3 : own_Go p e below S0 (s₁.setTop (mkF m 10 #[vI p1, vI p2] [(.int p2)])) := by
   intro t kt
   refine pre2 t ?_
   refine XS.icmpYes X0.here hx rfl (pc0 := 2) (pc' := 9) rfl (hb hby d28_2) rfl (tlt hc1).2.2.1 (by decide) (by decide) ?_
   refine XS.iloadN X0.here hx rfl (hb hby d28_9) rfl ?_
   exact kt
  obtain ⟨fs, hr, hrun, hended, hW, hsame⟩ := X0.leave (v := some (.int p2)) (fun h => by rw [Bd.returns] at h; cases h)
  refine ⟨_, _, fin _ (pre3 _ ?_), hrun, hended, _, _, rfl, ?_, ⟨_, rfl⟩, hW, hsame.mono (by decide) (by decide)⟩
  ·exact retI X0 hx Bd.returns (hb hby d28_10) hr
  ·show Q28 Z p1 p2 h0 n0 _ s₁.heap _
   rw [e0]
   exact ⟨(by show some _ = some _; rw [own_mn, if_pos hc1]), N0, rfl⟩
 ·have pre4 : own_Go p e below S0 (s₁.setTop (mkF m 10 #[vI p1, vI p2] [(.int p1)])) := by
   intro t kt
   refine pre2 t ?_
   refine XS.icmpNo X0.here hx rfl (hb hby d28_2) rfl (flt hc1).2.2.1 ?_
   refine XS.iloadN X0.here hx rfl (hb hby d28_5) rfl ?_
   refine XS.goto X0.here hx rfl (pc0 := 6) (pc' := 10) rfl (hb hby d28_6) (by decide) (by decide) ?_
   exact kt
  obtain ⟨fs, hr, hrun, hended, hW, hsame⟩ := X0.leave (v := some (.int p1)) (fun h => by rw [Bd.returns] at h; cases h)
  refine ⟨_, _, fin _ (pre4 _ ?_), hrun, hended, _, _, rfl, ?_, ⟨_, rfl⟩, hW, hsame.mono (by decide) (by decide)⟩
  ·exact retI X0 hx Bd.returns (hb hby d28_10) hr
  ·show Q28 Z p1 p2 h0 n0 _ s₁.heap _
   rw [e0]
   exact ⟨(by show some _ = some _; rw [own_mn, if_neg hc1]), N0, rfl⟩

theorem d25_0 : decode jdk_48_method_27_code 0 = .ok (.iload_n 0, 1) := by decide +kernel
theorem d25_1 : decode jdk_48_method_27_code 1 = .ok (.iload_n 1, 1) := by decide +kernel
theorem d25_2 : decode jdk_48_method_27_code 2 = .ok (.iload_n 2, 1) := by decide +kernel
theorem d25_3 : decode jdk_48_method_27_code 3 = .ok (.invokestatic 194, 3) := by decide +kernel
theorem d25_6 : decode jdk_48_method_27_code 6 = .ok (.iadd, 1) := by decide +kernel
theorem d25_7 : decode jdk_48_method_27_code 7 = .ok (.istore_n 3, 1) := by decide +kernel
theorem d25_8 : decode jdk_48_method_27_code 8 = .ok (.iconst 0, 1) := by decide +kernel
theorem d25_9 : decode jdk_48_method_27_code 9 = .ok (.iload_n 3, 1) := by decide +kernel
theorem d25_10 : decode jdk_48_method_27_code 10 = .ok (.if_icmp .ge 11, 3) := by decide +kernel
theorem d25_13 : decode jdk_48_method_27_code 13 = .ok (.iload_n 3, 1) := by decide +kernel
theorem d25_14 : decode jdk_48_method_27_code 14 = .ok (.ldc 200, 2) := by decide +kernel
theorem d25_16 : decode jdk_48_method_27_code 16 = .ok (.if_icmp .gt 5, 3) := by decide +kernel
theorem d25_19 : decode jdk_48_method_27_code 19 = .ok (.iload_n 3, 1) := by decide +kernel
theorem d25_20 : decode jdk_48_method_27_code 20 = .ok (.ireturn, 1) := by decide +kernel
theorem pn_25 : plainName "jdk/internal/util/ArraysSupport" = true := by first | (simp [plainName, overriddenIn]; done) | decide +kernel
theorem pd_0 : parseMethodDescriptor "(II)I" = some ⟨[.int, .int], some .int⟩ := by decide +kernel
theorem ef_25 (m : MethodId) (x0 : Int32) (x1 : Int32) (x2 : Int32) : entryFrame m #[(.int x0), (.int x1), (.int x2)] 4 = mkF m 0 #[vI x0, vI x1, vI x2, .unset] [] := by first | (simp [entryFrame, mkF, argsToLocals, Value.category]; done) | rfl
def own_nl (p1 : Int32) (p2 : Int32) (p3 : Int32) : Int32 := (p1 + (own_mx p2 p3))
def Q25 (Z : State) (p1 : Int32) (p2 : Int32) (p3 : Int32) (h0 : Heap) (n0 : Nat) (v : Option Value) (h : Heap) (L : List Loc) : Prop := v = (some (.int (own_nl p1 p2 p3))) ∧ Fr n0 L ∧ h = h0
set_option maxRecDepth 65536 in
set_option maxHeartbeats 40000000 in
theorem rm25 (l : Launch) (Z : State) (a0 : Array Value) (hw : ∀ d ∈ tables_1, d.before a0 Z = true) (ws : List Jvm.Cond) (p1 : Int32) (p2 : Int32) (p3 : Int32) (h0 : Heap) (n0 : Nat) (Z0 : n0 ≤ h0.size) (g1_ : ((0 : Int32) < (p1 + (own_mx p2 p3)))) (g2_ : (¬ (2147483639 : Int32) < (p1 + (own_mx p2 p3)))) :
  MetFree l own_m30 (head1 (Jvm.Cond.code own_m30 jdk_48_method_27_code 4 (some .int) :: ws) (own_r 1 0 0 14)) (fun a U => a = #[(.int p1), (.int p2), (.int p3)] ∧ Z.Warmed39 U.vm ∧ U.heap = h0) (fun _ _ _ _ _ => True) (fun _ U o U' => ∃ v L, o = .returned v ∧ Q25 Z p1 p2 p3 h0 n0 v U'.heap L ∧ FrameEnd U o U' L (own_r 1 0 0 14).cells (own_r 1 0 0 14).slots) := by
 refine MetFree.of_bodySF (plainFor_of_name pn_25) hisR ?_
 intro p e s m args below meth c s₁ Bd hml0 hP hK
 have H : ∀ (i : Nat) {d : Jvm.Cond}, tables_1[i]? = some d → d.before a0 Z = true := fun i _ h => hw _ (own_w i h)
 obtain ⟨rfl, hZ, hh⟩ := hP
 have hx := Bd.exec
 have hby := Bd.bytes
 have hml : c.maxLocals = 4 := hml0
 have hown0 := findClass_of_methodNamed Bd.named
 have hown : s.vm.findClass "jdk/internal/util/ArraysSupport" = some m.cls := hown0
 have hnm := (name_of_methodNamed Bd.named Bd.method).1
 have X0 : Stand p l e (own_r 1 0 0 14) s m #[(.int p1), (.int p2), (.int p3)] below meth c s₁ [] 0 0 := Stand.of_body Bd
 have e0 : s₁.heap = h0 := by rw [← hh, Bd.state]; rfl
 have N0 := Fr.nil n0
 obtain ⟨S0, hS0⟩ : ∃ z, z = s₁.setTop (entryFrame m #[(.int p1), (.int p2), (.int p3)] 4) := ⟨_, rfl⟩
 have pre0 : own_Go p e below S0 (s₁.setTop (mkF m 0 #[vI p1, vI p2, vI p3, .unset] [])) := fun t k => by rw [hS0]; exact castTop (ef_25 m p1 p2 p3) k
 have fin : ∀ t, Steps p.tables e below S0 t → Steps p.tables e below (s₁.setTop (entryFrame m #[(.int p1), (.int p2), (.int p3)] 4)) t := fun t k => by rw [hS0] at k; exact k
 have pre1 : own_Go p e below S0 (s₁.setTop (mkF m 3 #[vI p1, vI p2, vI p3, .unset] [(.int p3), (.int p2), (.int p1)])) := by
  intro t kt
  refine pre0 t ?_
  refine XS.iloadN X0.here hx rfl (hb hby d25_0) rfl ?_
  refine XS.iloadN X0.here hx rfl (hb hby d25_1) rfl ?_
  refine XS.iloadN X0.here hx rfl (hb hby d25_2) rfl ?_
  exact kt
 obtain ⟨_, _, ⟨T2, L2, k2, n2⟩, -, X2, ⟨Lc2, hQ2, l2, y2, z2⟩, st2⟩ := Jvm.LawKit.callS X0 hx (y := own_m11) hown (mvT hZ (H 142 rfl)) (mvT hZ (H 143 rfl)) (mvT hZ (H 144 rfl)) (mvT hZ (H 145 rfl)) (by decide) (backOf (W := 1) (rm26 l Z a0 hw [] p2 p3 h0 n0 Z0 ) hZ (H 145 rfl) (H 144 rfl) (by decide) (by decide)) (g := (own_top pre1)) rfl (by rw [hml]; rfl) (argsL := [(.int p2), (.int p3)]) (rest := [(.int p1)]) (lenOf pd_0 rfl) rfl (by show 2 * 0 + _ ≤ _; exact Nat.le_of_eq rfl) (hb hby d25_3) (fun _ _ => ⟨rfl, e0, (by decide : 0 + 0 ≤ _), (by decide : 0 + 0 ≤ _)⟩)
 dsimp only [Pt.U, Pt.locs, Pt.cells, Pt.slots] at X2 l2 y2 z2 st2 hQ2
 subst l2 y2 z2
 obtain ⟨rfl, Nq2, eq2⟩ := hQ2
 have N2 := Fr.app N0 Nq2
 have pre3 : own_Go p e below S0 (T2.setTop (mkF m 20 #[vI p1, vI p2, vI p3, vI (p1 + (own_mx p2 p3))] [(.int (p1 + (own_mx p2 p3)))])) := by
  intro t kt
  refine pre1 t ?_
  refine st2 _ ?_
  show Steps p.tables e below (T2.setTop (mkF m 6 #[vI p1, vI p2, vI p3, .unset] [(.int (own_mx p2 p3)), (.int p1)])) _
  refine XS.iadd X2.here hx rfl (hb hby d25_6) rfl ?_
  refine XS.istoreN X2.here hx rfl (hb hby d25_7) rfl (l' := #[vI p1, vI p2, vI p3, vI (p1 + (own_mx p2 p3))]) rfl ?_
  refine XS.iconst X2.here hx rfl (hb hby d25_8) ?_
  refine XS.iloadN X2.here hx rfl (hb hby d25_9) rfl ?_
  refine XS.icmpNo X2.here hx rfl (hb hby d25_10) rfl (tlt g1_).2.1 ?_
  refine XS.iloadN X2.here hx rfl (hb hby d25_13) rfl ?_
  refine X2.ldcInt hx hown (mvT hZ (H 146 rfl)) (g := (mkF m 14 #[vI p1, vI p2, vI p3, vI (p1 + (own_mx p2 p3))] [(.int (p1 + (own_mx p2 p3)))])) rfl (hb hby d25_14) _ ?_
  refine XS.icmpNo X2.here hx rfl (hb hby d25_16) rfl (flt g2_).2.2.1 ?_
  refine XS.iloadN X2.here hx rfl (hb hby d25_19) rfl ?_
  exact kt
 obtain ⟨fs, hr, hrun, hended, hW, hsame⟩ := X2.leave (v := some (.int (p1 + (own_mx p2 p3)))) (fun h => by rw [Bd.returns] at h; cases h)
 refine ⟨_, _, fin _ (pre3 _ ?_), hrun, hended, _, _, rfl, ?_, ⟨_, rfl⟩, hW, hsame.mono (by decide) (by decide)⟩
 ·exact retI X2 hx Bd.returns (hb hby d25_20) hr
 ·show Q25 Z p1 p2 p3 h0 n0 _ T2.heap _
  rw [eq2]
  exact ⟨(by show some _ = some _; rw [own_nl]), N2, rfl⟩

theorem d24_0 : decode jdk_68_method_10_code 0 = .ok (.aload_n 0, 1) := by decide +kernel
theorem d24_1 : decode jdk_68_method_10_code 1 = .ok (.getfield 15, 3) := by decide +kernel
theorem d24_4 : decode jdk_68_method_10_code 4 = .ok (.arraylength, 1) := by decide +kernel
theorem d24_5 : decode jdk_68_method_10_code 5 = .ok (.istore_n 2, 1) := by decide +kernel
theorem d24_6 : decode jdk_68_method_10_code 6 = .ok (.iload_n 1, 1) := by decide +kernel
theorem d24_7 : decode jdk_68_method_10_code 7 = .ok (.aload_n 0, 1) := by decide +kernel
theorem d24_8 : decode jdk_68_method_10_code 8 = .ok (.getfield 22, 3) := by decide +kernel
theorem d24_11 : decode jdk_68_method_10_code 11 = .ok (.ishl, 1) := by decide +kernel
theorem d24_12 : decode jdk_68_method_10_code 12 = .ok (.istore_n 3, 1) := by decide +kernel
theorem d24_13 : decode jdk_68_method_10_code 13 = .ok (.iload_n 3, 1) := by decide +kernel
theorem d24_14 : decode jdk_68_method_10_code 14 = .ok (.iload_n 2, 1) := by decide +kernel
theorem d24_15 : decode jdk_68_method_10_code 15 = .ok (.isub, 1) := by decide +kernel
theorem d24_16 : decode jdk_68_method_10_code 16 = .ok (.istore 4, 2) := by decide +kernel
theorem d24_18 : decode jdk_68_method_10_code 18 = .ok (.iload_n 2, 1) := by decide +kernel
theorem d24_19 : decode jdk_68_method_10_code 19 = .ok (.iload 4, 2) := by decide +kernel
theorem d24_21 : decode jdk_68_method_10_code 21 = .ok (.iload_n 2, 1) := by decide +kernel
theorem d24_22 : decode jdk_68_method_10_code 22 = .ok (.iconst 2, 1) := by decide +kernel
theorem d24_23 : decode jdk_68_method_10_code 23 = .ok (.aload_n 0, 1) := by decide +kernel
theorem d24_24 : decode jdk_68_method_10_code 24 = .ok (.getfield 22, 3) := by decide +kernel
theorem d24_27 : decode jdk_68_method_10_code 27 = .ok (.ishl, 1) := by decide +kernel
theorem d24_28 : decode jdk_68_method_10_code 28 = .ok (.iadd, 1) := by decide +kernel
theorem d24_29 : decode jdk_68_method_10_code 29 = .ok (.invokestatic 114, 3) := by decide +kernel
theorem d24_32 : decode jdk_68_method_10_code 32 = .ok (.istore 5, 2) := by decide +kernel
theorem d24_34 : decode jdk_68_method_10_code 34 = .ok (.iload 5, 2) := by decide +kernel
theorem d24_36 : decode jdk_68_method_10_code 36 = .ok (.ldc 39, 2) := by decide +kernel
theorem d24_38 : decode jdk_68_method_10_code 38 = .ok (.if_icmp .ne 13, 3) := by decide +kernel
theorem d24_51 : decode jdk_68_method_10_code 51 = .ok (.iload 5, 2) := by decide +kernel
theorem d24_53 : decode jdk_68_method_10_code 53 = .ok (.aload_n 0, 1) := by decide +kernel
theorem d24_54 : decode jdk_68_method_10_code 54 = .ok (.getfield 22, 3) := by decide +kernel
theorem d24_57 : decode jdk_68_method_10_code 57 = .ok (.ishr, 1) := by decide +kernel
theorem d24_58 : decode jdk_68_method_10_code 58 = .ok (.ireturn, 1) := by decide +kernel
theorem pn_24 : plainName "java/lang/AbstractStringBuilder" = true := by first | (simp [plainName, overriddenIn]; done) | decide +kernel
theorem pd_1 : parseMethodDescriptor "(III)I" = some ⟨[.int, .int, .int], some .int⟩ := by decide +kernel
theorem ef_24 (m : MethodId) (x0 : Addr) (x1 : Int32) : entryFrame m #[(.ref x0), (.int x1)] 6 = mkF m 0 #[vR x0, vI x1, .unset, .unset, .unset, .unset] [] := by first | (simp [entryFrame, mkF, argsToLocals, Value.category]; done) | rfl
def own_nc (p2 : Int32) (z1 : Int32) : Int32 := ((own_nl z1 ((p2 <<< ((0 : Int32) &&& 31)) - z1) (z1 + (2 : Int32))) >>> ((0 : Int32) &&& 31))
def Q24 (Z : State) (a1 : Addr) (p2 : Int32) (va : Addr) (kv : ClassId) (z1 : Int32) (vs : List Value) (h0 : Heap) (n0 : Nat) (v : Option Value) (h : Heap) (L : List Loc) : Prop := v = (some (.int (own_nc p2 z1))) ∧ Fr n0 L ∧ h = h0
set_option maxRecDepth 65536 in
set_option maxHeartbeats 40000000 in
theorem rm24 (l : Launch) (Z : State) (a0 : Array Value) (hw : ∀ d ∈ tables_1, d.before a0 Z = true) (ws : List Jvm.Cond) (a1 : Addr) (p2 : Int32) (va : Addr) (kv : ClassId) (z1 : Int32) (vs : List Value) (h0 : Heap) (n0 : Nat) (Z0 : n0 ≤ h0.size) (q0_ : Fld Z h0 a1 "java/lang/AbstractStringBuilder" "value" "[B" (.ref va)) (q1_ : Fld Z h0 a1 "java/lang/AbstractStringBuilder" "coder" "B" (.int 0)) (q2_ : Arv Z h0 va kv .byte z1 vs (.int 0)) (e1_ : ((0 : Int32) < (z1 + (own_mx ((p2 <<< ((0 : Int32) &&& 31)) - z1) (z1 + (2 : Int32)))))) (e2_ : (¬ (2147483639 : Int32) < (z1 + (own_mx ((p2 <<< ((0 : Int32) &&& 31)) - z1) (z1 + (2 : Int32)))))) (e3_ : (¬ (own_nl z1 ((p2 <<< ((0 : Int32) &&& 31)) - z1) (z1 + (2 : Int32))) = (2147483647 : Int32))) :
  MetFree l own_m10 (head1 (Jvm.Cond.code own_m10 jdk_68_method_10_code 6 (some .int) :: ws) (own_r 2 0 0 29)) (fun a U => a = #[(.ref a1), (.int p2)] ∧ Z.Warmed39 U.vm ∧ U.heap = h0) (fun _ _ _ _ _ => True) (fun _ U o U' => ∃ v L, o = .returned v ∧ Q24 Z a1 p2 va kv z1 vs h0 n0 v U'.heap L ∧ FrameEnd U o U' L (own_r 2 0 0 29).cells (own_r 2 0 0 29).slots) := by
 refine MetFree.of_bodySF (plainFor_of_name pn_24) hisR ?_
 intro p e s m args below meth c s₁ Bd hml0 hP hK
 have H : ∀ (i : Nat) {d : Jvm.Cond}, tables_1[i]? = some d → d.before a0 Z = true := fun i _ h => hw _ (own_w i h)
 obtain ⟨rfl, hZ, hh⟩ := hP
 have hx := Bd.exec
 have hby := Bd.bytes
 have hml : c.maxLocals = 6 := hml0
 have hown0 := findClass_of_methodNamed Bd.named
 have hown : s.vm.findClass "java/lang/AbstractStringBuilder" = some m.cls := hown0
 have hnm := (name_of_methodNamed Bd.named Bd.method).1
 have X0 : Stand p l e (own_r 2 0 0 29) s m #[(.ref a1), (.int p2)] below meth c s₁ [] 0 0 := Stand.of_body Bd
 have e0 : s₁.heap = h0 := by rw [← hh, Bd.state]; rfl
 have N0 := Fr.nil n0
 obtain ⟨S0, hS0⟩ : ∃ z, z = s₁.setTop (entryFrame m #[(.ref a1), (.int p2)] 6) := ⟨_, rfl⟩
 have pre0 : own_Go p e below S0 (s₁.setTop (mkF m 0 #[vR a1, vI p2, .unset, .unset, .unset, .unset] [])) := fun t k => by rw [hS0]; exact castTop (ef_24 m a1 p2) k
 have fin : ∀ t, Steps p.tables e below S0 t → Steps p.tables e below (s₁.setTop (entryFrame m #[(.ref a1), (.int p2)] 6)) t := fun t k => by rw [hS0] at k; exact k
 have pre1 : own_Go p e below S0 (s₁.setTop (mkF m 1 #[vR a1, vI p2, .unset, .unset, .unset, .unset] [(.ref a1)])) := by
  intro t kt
  refine pre0 t ?_
  refine XS.aloadN X0.here hx rfl (hb hby d24_0) rfl rfl ?_
  exact kt
 obtain ⟨T2, X2, e2, st2⟩ := getF X0 hx hZ hown (host := "") (Or.inl (H 22 rfl)) Via.refl e0 q0_ (g := (own_top pre1)) rfl rfl (hb hby d24_1)
 have pre3 : own_Go p e below S0 (T2.setTop (mkF m 4 #[vR a1, vI p2, .unset, .unset, .unset, .unset] [(.ref va)])) := by
  intro t kt
  refine pre1 t ?_
  refine st2 _ ?_
  exact kt
 obtain ⟨cl4, Ar4, -, Sz4, Ng4, -, -⟩ := id q2_
 have pre5 : own_Go p e below S0 (T2.setTop (mkF m 8 #[vR a1, vI p2, vI z1, .unset, .unset, .unset] [(.ref a1), (.int p2)])) := by
  intro t kt
  refine pre3 t ?_
  refine X2.arraylength hx (by rw [e2]; exact Ar4.1) (State.isArrayOf_alike hZ.alike Ar4.2.1) (g := (own_top pre3)) rfl rfl (hb hby d24_4) _ ?_
  rw [len_of Sz4 Ng4]
  show Steps p.tables e below (T2.setTop (mkF m 5 #[vR a1, vI p2, .unset, .unset, .unset, .unset] [(.int z1)])) _
  refine XS.istoreN X2.here hx rfl (hb hby d24_5) rfl (l' := #[vR a1, vI p2, vI z1, .unset, .unset, .unset]) rfl ?_
  refine XS.iloadN X2.here hx rfl (hb hby d24_6) rfl ?_
  refine XS.aloadN X2.here hx rfl (hb hby d24_7) rfl rfl ?_
  exact kt
 obtain ⟨T6, X6, e6, st6⟩ := getF X2 hx hZ hown (host := "") (Or.inl (H 24 rfl)) Via.refl e2 q1_ (g := (own_top pre5)) rfl rfl (hb hby d24_8)
 have pre7 : own_Go p e below S0 (T6.setTop (mkF m 24 #[vR a1, vI p2, vI z1, vI (p2 <<< ((0 : Int32) &&& 31)), .val (.int ((p2 <<< ((0 : Int32) &&& 31)) - z1)), .unset] [(.ref a1), (.int 2), (.int z1), (.int ((p2 <<< ((0 : Int32) &&& 31)) - z1)), (.int z1)])) := by
  intro t kt
  refine pre5 t ?_
  refine st6 _ ?_
  refine XS.ishl X6.here hx rfl (hb hby d24_11) rfl ?_
  refine XS.istoreN X6.here hx rfl (hb hby d24_12) rfl (l' := #[vR a1, vI p2, vI z1, vI (p2 <<< ((0 : Int32) &&& 31)), .unset, .unset]) rfl ?_
  refine XS.iloadN X6.here hx rfl (hb hby d24_13) rfl ?_
  refine XS.iloadN X6.here hx rfl (hb hby d24_14) rfl ?_
  refine XS.isub X6.here hx rfl (hb hby d24_15) rfl ?_
  refine XS.istore X6.here hx rfl (hb hby d24_16) rfl (l' := #[vR a1, vI p2, vI z1, vI (p2 <<< ((0 : Int32) &&& 31)), .val (.int ((p2 <<< ((0 : Int32) &&& 31)) - z1)), .unset]) rfl ?_
  refine XS.iloadN X6.here hx rfl (hb hby d24_18) rfl ?_
  refine XS.iload X6.here hx rfl (hb hby d24_19) rfl ?_
  refine XS.iloadN X6.here hx rfl (hb hby d24_21) rfl ?_
  refine XS.iconst X6.here hx rfl (hb hby d24_22) ?_
  refine XS.aloadN X6.here hx rfl (hb hby d24_23) rfl rfl ?_
  show Steps p.tables e below (T6.setTop (mkF m 24 #[vR a1, vI p2, vI z1, vI (p2 <<< ((0 : Int32) &&& 31)), .val (.int ((p2 <<< ((0 : Int32) &&& 31)) - z1)), .unset] [(.ref a1), (.int 2), (.int z1), (.int ((p2 <<< ((0 : Int32) &&& 31)) - z1)), (.int z1)])) _
  exact kt
 obtain ⟨T8, X8, e8, st8⟩ := getF X6 hx hZ hown (host := "") (Or.inl (H 24 rfl)) Via.refl e6 q1_ (g := (own_top pre7)) rfl rfl (hb hby d24_24)
 have pre9 : own_Go p e below S0 (T8.setTop (mkF m 29 #[vR a1, vI p2, vI z1, vI (p2 <<< ((0 : Int32) &&& 31)), .val (.int ((p2 <<< ((0 : Int32) &&& 31)) - z1)), .unset] [(.int (z1 + (2 : Int32))), (.int ((p2 <<< ((0 : Int32) &&& 31)) - z1)), (.int z1)])) := by
  intro t kt
  refine pre7 t ?_
  refine st8 _ ?_
  refine XS.ishl X8.here hx rfl (hb hby d24_27) rfl ?_
  refine XS.iadd X8.here hx rfl (hb hby d24_28) rfl ?_
  exact kt
 obtain ⟨_, _, ⟨T10, L10, k10, n10⟩, -, X10, ⟨Lc10, hQ10, l10, y10, z10⟩, st10⟩ := Jvm.LawKit.callS X8 hx (y := own_m30) hown (mvT hZ (H 138 rfl)) (mvT hZ (H 139 rfl)) (mvT hZ (H 140 rfl)) (mvT hZ (H 141 rfl)) (by decide) (backOf (W := 0) (rm25 l Z a0 hw [] z1 ((p2 <<< ((0 : Int32) &&& 31)) - z1) (z1 + (2 : Int32)) h0 n0 Z0 e1_ e2_) hZ (H 141 rfl) (H 140 rfl) (by decide) (by decide)) (g := (own_top pre9)) rfl (by rw [hml]; rfl) (argsL := [(.int z1), (.int ((p2 <<< ((0 : Int32) &&& 31)) - z1)), (.int (z1 + (2 : Int32)))]) (rest := []) (lenOf pd_1 rfl) rfl (by show 2 * 0 + _ ≤ _; exact Nat.le_of_eq rfl) (hb hby d24_29) (fun _ _ => ⟨rfl, e8, (by decide : 0 + 0 ≤ _), (by decide : 0 + 0 ≤ _)⟩)
 dsimp only [Pt.U, Pt.locs, Pt.cells, Pt.slots] at X10 l10 y10 z10 st10 hQ10
 subst l10 y10 z10
 obtain ⟨rfl, Nq10, eq10⟩ := hQ10
 have N10 := Fr.app N0 Nq10
 have pre11 : own_Go p e below S0 (T10.setTop (mkF m 54 #[vR a1, vI p2, vI z1, vI (p2 <<< ((0 : Int32) &&& 31)), .val (.int ((p2 <<< ((0 : Int32) &&& 31)) - z1)), .val (.int (own_nl z1 ((p2 <<< ((0 : Int32) &&& 31)) - z1) (z1 + (2 : Int32))))] [(.ref a1), (.int (own_nl z1 ((p2 <<< ((0 : Int32) &&& 31)) - z1) (z1 + (2 : Int32))))])) := by
  intro t kt
  refine pre9 t ?_
  refine st10 _ ?_
  show Steps p.tables e below (T10.setTop (mkF m 32 #[vR a1, vI p2, vI z1, vI (p2 <<< ((0 : Int32) &&& 31)), .val (.int ((p2 <<< ((0 : Int32) &&& 31)) - z1)), .unset] [(.int (own_nl z1 ((p2 <<< ((0 : Int32) &&& 31)) - z1) (z1 + (2 : Int32))))])) _
  refine XS.istore X10.here hx rfl (hb hby d24_32) rfl (l' := #[vR a1, vI p2, vI z1, vI (p2 <<< ((0 : Int32) &&& 31)), .val (.int ((p2 <<< ((0 : Int32) &&& 31)) - z1)), .val (.int (own_nl z1 ((p2 <<< ((0 : Int32) &&& 31)) - z1) (z1 + (2 : Int32))))]) rfl ?_
  refine XS.iload X10.here hx rfl (hb hby d24_34) rfl ?_
  refine X10.ldcInt hx hown (mvT hZ (H 147 rfl)) (g := (mkF m 36 #[vR a1, vI p2, vI z1, vI (p2 <<< ((0 : Int32) &&& 31)), .val (.int ((p2 <<< ((0 : Int32) &&& 31)) - z1)), .val (.int (own_nl z1 ((p2 <<< ((0 : Int32) &&& 31)) - z1) (z1 + (2 : Int32))))] [(.int (own_nl z1 ((p2 <<< ((0 : Int32) &&& 31)) - z1) (z1 + (2 : Int32))))])) rfl (hb hby d24_36) _ ?_
  refine XS.icmpYes X10.here hx rfl (pc0 := 38) (pc' := 51) rfl (hb hby d24_38) rfl (feq e3_).2 (by decide) (by decide) ?_
  refine XS.iload X10.here hx rfl (hb hby d24_51) rfl ?_
  refine XS.aloadN X10.here hx rfl (hb hby d24_53) rfl rfl ?_
  exact kt
 obtain ⟨T12, X12, e12, st12⟩ := getF X10 hx hZ hown (host := "") (Or.inl (H 24 rfl)) Via.refl eq10 q1_ (g := (own_top pre11)) rfl rfl (hb hby d24_54)
 have pre13 : own_Go p e below S0 (T12.setTop (mkF m 58 #[vR a1, vI p2, vI z1, vI (p2 <<< ((0 : Int32) &&& 31)), .val (.int ((p2 <<< ((0 : Int32) &&& 31)) - z1)), .val (.int (own_nl z1 ((p2 <<< ((0 : Int32) &&& 31)) - z1) (z1 + (2 : Int32))))] [(.int ((own_nl z1 ((p2 <<< ((0 : Int32) &&& 31)) - z1) (z1 + (2 : Int32))) >>> ((0 : Int32) &&& 31)))])) := by
  intro t kt
  refine pre11 t ?_
  refine st12 _ ?_
  refine XS.ishr X12.here hx rfl (hb hby d24_57) rfl ?_
  exact kt
 obtain ⟨fs, hr, hrun, hended, hW, hsame⟩ := X12.leave (v := some (.int ((own_nl z1 ((p2 <<< ((0 : Int32) &&& 31)) - z1) (z1 + (2 : Int32))) >>> ((0 : Int32) &&& 31)))) (fun h => by rw [Bd.returns] at h; cases h)
 refine ⟨_, _, fin _ (pre13 _ ?_), hrun, hended, _, _, rfl, ?_, ⟨_, rfl⟩, hW, hsame.mono (by decide) (by decide)⟩
 ·exact retI X12 hx Bd.returns (hb hby d24_58) hr
 ·show Q24 Z a1 p2 va kv z1 vs h0 n0 _ T12.heap _
  rw [e12]
  exact ⟨(by show some _ = some _; rw [own_nc]), N10, rfl⟩

theorem d27_0 : decode jdk_65_method_121_code 0 = .ok (.iload_n 1, 1) := by decide +kernel
theorem d27_1 : decode jdk_65_method_121_code 1 = .ok (.aload_n 0, 1) := by decide +kernel
theorem d27_2 : decode jdk_65_method_121_code 2 = .ok (.arraylength, 1) := by decide +kernel
theorem d27_3 : decode jdk_65_method_121_code 3 = .ok (.if_icmp .ne 11, 3) := by decide +kernel
theorem d27_14 : decode jdk_65_method_121_code 14 = .ok (.iload_n 1, 1) := by decide +kernel
theorem d27_15 : decode jdk_65_method_121_code 15 = .ok (.newarray .byte, 2) := by decide +kernel
theorem d27_17 : decode jdk_65_method_121_code 17 = .ok (.astore_n 2, 1) := by decide +kernel
theorem d27_18 : decode jdk_65_method_121_code 18 = .ok (.aload_n 0, 1) := by decide +kernel
theorem d27_19 : decode jdk_65_method_121_code 19 = .ok (.iconst 0, 1) := by decide +kernel
theorem d27_20 : decode jdk_65_method_121_code 20 = .ok (.aload_n 2, 1) := by decide +kernel
theorem d27_21 : decode jdk_65_method_121_code 21 = .ok (.iconst 0, 1) := by decide +kernel
theorem d27_22 : decode jdk_65_method_121_code 22 = .ok (.aload_n 0, 1) := by decide +kernel
theorem d27_23 : decode jdk_65_method_121_code 23 = .ok (.arraylength, 1) := by decide +kernel
theorem d27_24 : decode jdk_65_method_121_code 24 = .ok (.iload_n 1, 1) := by decide +kernel
theorem d27_25 : decode jdk_65_method_121_code 25 = .ok (.invokestatic 304, 3) := by decide +kernel
theorem d27_28 : decode jdk_65_method_121_code 28 = .ok (.invokestatic 150, 3) := by decide +kernel
theorem d27_31 : decode jdk_65_method_121_code 31 = .ok (.aload_n 2, 1) := by decide +kernel
theorem d27_32 : decode jdk_65_method_121_code 32 = .ok (.areturn, 1) := by decide +kernel
theorem pn_27 : plainName "java/util/Arrays" = true := by first | (simp [plainName, overriddenIn]; done) | decide +kernel
theorem ef_co1 (m : MethodId) (x0 : Addr) : entryFrame m #[(.ref x0), (.int 4)] 3 = mkF m 0 #[vR x0, vI 4, .unset] [] := by first | (simp [entryFrame, mkF, argsToLocals, Value.category]; done) | rfl
def Qco1 (Z : State) (a1 : Addr) (k1 : ClassId) (v0 : Value) (h0 : Heap) (n0 : Nat) (v : Option Value) (h : Heap) (L : List Loc) : Prop := ∃ b : Addr, ∃ kb : ClassId, v = (some (.ref b)) ∧ Fr n0 L ∧ Keep h0 h [] ∧ h0.size ≤ b ∧ Exa Z h b "[B" ∧ Arv Z h b kb .byte (4 : Int32) [v0, (.int 0), (.int 0), (.int 0)] (.int 0)
set_option maxRecDepth 65536 in
set_option maxHeartbeats 40000000 in
theorem rmco1 (l : Launch) (Z : State) (a0 : Array Value) (hw : ∀ d ∈ tables_1, d.before a0 Z = true) (ws : List Jvm.Cond) (a1 : Addr) (k1 : ClassId) (v0 : Value) (h0 : Heap) (n0 : Nat) (Z0 : n0 ≤ h0.size) (V1 : Arv Z h0 a1 k1 .byte (1 : Int32) [v0] (.int 0)) :
  MetFree l own_m27 (head1 (Jvm.Cond.code own_m27 jdk_65_method_121_code 3 (some (.array .byte)) :: ws) (own_r 1 1 4 18)) (fun a U => a = #[(.ref a1), (.int 4)] ∧ Z.Warmed39 U.vm ∧ U.heap = h0) (fun _ _ _ _ _ => True) (fun _ U o U' => ∃ v L, o = .returned v ∧ Qco1 Z a1 k1 v0 h0 n0 v U'.heap L ∧ FrameEnd U o U' L (own_r 1 1 4 18).cells (own_r 1 1 4 18).slots) := by
 refine MetFree.of_bodySF (plainFor_of_name pn_27) hisR ?_
 intro p e s m args below meth c s₁ Bd hml0 hP hK
 have H : ∀ (i : Nat) {d : Jvm.Cond}, tables_1[i]? = some d → d.before a0 Z = true := fun i _ h => hw _ (own_w i h)
 obtain ⟨rfl, hZ, hh⟩ := hP
 have hx := Bd.exec
 have hby := Bd.bytes
 have hml : c.maxLocals = 3 := hml0
 have hown0 := findClass_of_methodNamed Bd.named
 have hown : s.vm.findClass "java/util/Arrays" = some m.cls := hown0
 have hnm := (name_of_methodNamed Bd.named Bd.method).1
 have X0 : Stand p l e (own_r 1 1 4 18) s m #[(.ref a1), (.int 4)] below meth c s₁ [] 0 0 := Stand.of_body Bd
 have e0 : s₁.heap = h0 := by rw [← hh, Bd.state]; rfl
 have N0 := Fr.nil n0
 obtain ⟨S0, hS0⟩ : ∃ z, z = s₁.setTop (entryFrame m #[(.ref a1), (.int 4)] 3) := ⟨_, rfl⟩
 have pre0 : own_Go p e below S0 (s₁.setTop (mkF m 0 #[vR a1, vI 4, .unset] [])) := fun t k => by rw [hS0]; exact castTop (ef_co1 m a1) k
 have fin : ∀ t, Steps p.tables e below S0 t → Steps p.tables e below (s₁.setTop (entryFrame m #[(.ref a1), (.int 4)] 3)) t := fun t k => by rw [hS0] at k; exact k
 have kc0 : Keep h0 h0 [] := Keep.refl _ _
 have pre1 : own_Go p e below S0 (s₁.setTop (mkF m 2 #[vR a1, vI 4, .unset] [(.ref a1), (.int 4)])) := by
  intro t kt
  refine pre0 t ?_
  refine XS.iloadN X0.here hx rfl (hb hby d27_0) rfl ?_
  refine XS.aloadN X0.here hx rfl (hb hby d27_1) rfl rfl ?_
  exact kt
 obtain ⟨cl2, Ar2, -, Sz2, Ng2, -, -⟩ := id V1
 have pre3 : own_Go p e below S0 (s₁.setTop (mkF m 15 #[vR a1, vI 4, .unset] [(.int 4)])) := by
  intro t kt
  refine pre1 t ?_
  refine X0.arraylength hx (by rw [e0]; exact Ar2.1) (State.isArrayOf_alike hZ.alike Ar2.2.1) (g := (own_top pre1)) rfl rfl (hb hby d27_2) _ ?_
  rw [len_of Sz2 Ng2]
  show Steps p.tables e below (s₁.setTop (mkF m 3 #[vR a1, vI 4, .unset] [(.int 1), (.int 4)])) _
  refine XS.icmpYes X0.here hx rfl (pc0 := 3) (pc' := 14) rfl (hb hby d27_3) rfl (feq (by decide : ¬ ((4 : Int32) = (1 : Int32)))).2 (by decide) (by decide) ?_
  refine XS.iloadN X0.here hx rfl (hb hby d27_14) rfl ?_
  exact kt
 obtain ⟨T4, h4, k4, X4, e4, E4, A4, Ax4, st4⟩ := newPE X0 hx hZ (H 0 rfl) e0 (g := (own_top pre3)) rfl (hb hby d27_15) rfl (by decide) (cap := 4) (by decide) (by decide) (by decide) (by decide) (ad := "[B") (by decide)
 obtain ⟨b4, g4⟩ : ∃ z, z = h0.size := ⟨_, rfl⟩
 rw [← g4] at A4 Ax4 st4
 have ne5 : a1 ≠ b4 := Nat.ne_of_lt (Nat.lt_of_lt_of_le V1.lt (Nat.le_of_eq g4.symm))
 have ge6 : n0 ≤ b4 := Nat.le_trans Z0 (Nat.le_of_eq g4.symm)
 have sz7 : h0.size ≤ b4 := Nat.le_trans kc0.1 (Nat.le_of_eq g4.symm)
 have zs8 : n0 ≤ h4.size := Nat.le_trans Z0 E4.1
 have kc9 : Keep h0 h4 [] := kc0.ext E4
 have V4 : Arv Z h4 b4 k4 .byte (4 : Int32) [(.int 0), (.int 0), (.int 0), (.int 0)] (.int 0) := (Arv.new A4 (by decide)).pad (pad_rep [] (.int 0) 4)
 have pre10 : own_Go p e below S0 (T4.setTop (mkF m 23 #[vR a1, vI 4, vR b4] [(.ref a1), (.int 0), (.ref b4), (.int 0), (.ref a1)])) := by
  intro t kt
  refine pre3 t ?_
  refine st4 _ ?_
  refine XS.astoreN X4.here hx rfl (hb hby d27_17) rfl rfl (l' := #[vR a1, vI 4, vR b4]) rfl ?_
  refine XS.aloadN X4.here hx rfl (hb hby d27_18) rfl rfl ?_
  refine XS.iconst X4.here hx rfl (hb hby d27_19) ?_
  refine XS.aloadN X4.here hx rfl (hb hby d27_20) rfl rfl ?_
  refine XS.iconst X4.here hx rfl (hb hby d27_21) ?_
  refine XS.aloadN X4.here hx rfl (hb hby d27_22) rfl rfl ?_
  exact kt
 have f11 : Arv Z h4 a1 k1 .byte (1 : Int32) [v0] (.int 0) := (V1.ext E4)
 obtain ⟨cl12, Ar12, -, Sz12, Ng12, -, -⟩ := id f11
 have pre13 : own_Go p e below S0 (T4.setTop (mkF m 25 #[vR a1, vI 4, vR b4] [(.int 4), (.int 1), (.int 0), (.ref b4), (.int 0), (.ref a1)])) := by
  intro t kt
  refine pre10 t ?_
  refine X4.arraylength hx (by rw [e4]; exact Ar12.1) (State.isArrayOf_alike hZ.alike Ar12.2.1) (g := (own_top pre10)) rfl rfl (hb hby d27_23) _ ?_
  rw [len_of Sz12 Ng12]
  show Steps p.tables e below (T4.setTop (mkF m 24 #[vR a1, vI 4, vR b4] [(.int 1), (.int 0), (.ref b4), (.int 0), (.ref a1)])) _
  refine XS.iloadN X4.here hx rfl (hb hby d27_24) rfl ?_
  exact kt
 obtain ⟨_, _, ⟨T14, L14, k14, n14⟩, -, X14, ⟨Lc14, hQ14, l14, y14, z14⟩, st14⟩ := Jvm.LawKit.callS X4 hx (y := own_m12) hown (mvT hZ (H 151 rfl)) (mvT hZ (H 152 rfl)) (mvT hZ (H 144 rfl)) (mvT hZ (H 153 rfl)) (by decide) (backOf (W := 4) (rm28 l Z a0 hw [] (1 : Int32) (4 : Int32) h4 n0 zs8 ) hZ (H 153 rfl) (H 144 rfl) (by decide) (by decide)) (g := (own_top pre13)) rfl (by rw [hml]; rfl) (argsL := [(.int 1), (.int 4)]) (rest := [(.int 0), (.ref b4), (.int 0), (.ref a1)]) (lenOf pd_0 rfl) rfl (by show 2 * 0 + _ ≤ _; exact Nat.le_of_eq rfl) (hb hby d27_25) (fun _ _ => ⟨rfl, e4, (by decide : 1 + 0 ≤ _), (by decide : 4 + 0 ≤ _)⟩)
 dsimp only [Pt.U, Pt.locs, Pt.cells, Pt.slots] at X14 l14 y14 z14 st14 hQ14
 subst l14 y14 z14
 obtain ⟨rfl, Nq14, eq14⟩ := hQ14
 have N14 := Fr.app N0 Nq14
 have pre15 : own_Go p e below S0 (T14.setTop (mkF m 28 #[vR a1, vI 4, vR b4] [(.int (own_mn (1 : Int32) (4 : Int32))), (.int 0), (.ref b4), (.int 0), (.ref a1)])) := by
  intro t kt
  refine pre13 t ?_
  refine st14 _ ?_
  show Steps p.tables e below (T14.setTop (mkF m 28 #[vR a1, vI 4, vR b4] [(.int (own_mn (1 : Int32) (4 : Int32))), (.int 0), (.ref b4), (.int 0), (.ref a1)])) _
  exact kt
 have pre16 : own_Go p e below S0 (T14.setTop (mkF m 28 #[vR a1, vI 4, vR b4] [(.int 1), (.int 0), (.ref b4), (.int 0), (.ref a1)])) := by
  intro t kt
  refine pre15 t ?_
  rw [(by decide : (own_mn (1 : Int32) (4 : Int32)) = (1 : Int32))]
  exact kt
 obtain ⟨T17, h17, L17, X17, e17, N17, K17, V17, st17⟩ := cpA X14 hx hZ hown (H 154 rfl) (H 157 rfl) (H 155 rfl) (H 156 rfl) eq14 f11 V4 (us := [v0]) (Or.inl ⟨rfl, rfl⟩) (by decide) (by decide) (by decide) (by decide) (by decide) rfl (by decide) N14 ge6 (g := (own_top pre16)) rfl (by rw [hml]; rfl) rfl (hb hby d27_28) (by decide) (W := 0) (by show 2 * 0 + _ ≤ _; exact Nat.le_of_eq rfl) (by decide)
 have zs18 : n0 ≤ h17.size := Nat.le_trans zs8 K17.1
 have kc19 : Keep h0 h17 [] := kc9.trans K17 (allS (Or.inr sz7) all0)
 have V17q : Arv Z h17 b4 k4 .byte (4 : Int32) [v0, (.int 0), (.int 0), (.int 0)] (.int 0) := V17
 have pre20 : own_Go p e below S0 (T17.setTop (mkF m 32 #[vR a1, vI 4, vR b4] [(.ref b4)])) := by
  intro t kt
  refine pre16 t ?_
  refine st17 _ ?_
  refine XS.aloadN X17.here hx rfl (hb hby d27_31) rfl rfl ?_
  exact kt
 obtain ⟨fs, hr, hrun, hended, hW, hsame⟩ := X17.leave (v := some (.ref b4)) (fun h => by rw [Bd.returns] at h; cases h)
 refine ⟨_, _, fin _ (pre20 _ ?_), hrun, hended, _, _, rfl, ?_, ⟨_, rfl⟩, hW, hsame.mono (by decide) (by decide)⟩
 ·jvm_step X17.here [X17.here.top, hx, (hb hby d27_32), X17.method', Bd.returns, Value.isRef, FieldType.isReference]
  first | (intro acts; rw [hr _ acts rfl rfl rfl]) | rw [hr _ _ rfl rfl rfl]
  exact Steps.refl _
 have f21 : Exa Z h17 b4 "[B" := (Ax4.keep K17)
 ·show Qco1 Z a1 k1 v0 h0 n0 _ T17.heap _
  rw [e17]
  exact ⟨b4, k4, rfl, N17, kc19, sz7, f21, V17q⟩

theorem ef_co2 (m : MethodId) (x0 : Addr) : entryFrame m #[(.ref x0), (.int 6)] 3 = mkF m 0 #[vR x0, vI 6, .unset] [] := by first | (simp [entryFrame, mkF, argsToLocals, Value.category]; done) | rfl
def Qco2 (Z : State) (a1 : Addr) (k1 : ClassId) (v0 : Value) (v1 : Value) (h0 : Heap) (n0 : Nat) (v : Option Value) (h : Heap) (L : List Loc) : Prop := ∃ b : Addr, ∃ kb : ClassId, v = (some (.ref b)) ∧ Fr n0 L ∧ Keep h0 h [] ∧ h0.size ≤ b ∧ Exa Z h b "[B" ∧ Arv Z h b kb .byte (6 : Int32) [v0, v1, (.int 0), (.int 0), (.int 0), (.int 0)] (.int 0)
set_option maxRecDepth 65536 in
set_option maxHeartbeats 40000000 in
theorem rmco2 (l : Launch) (Z : State) (a0 : Array Value) (hw : ∀ d ∈ tables_1, d.before a0 Z = true) (ws : List Jvm.Cond) (a1 : Addr) (k1 : ClassId) (v0 : Value) (v1 : Value) (h0 : Heap) (n0 : Nat) (Z0 : n0 ≤ h0.size) (V1 : Arv Z h0 a1 k1 .byte (2 : Int32) [v0, v1] (.int 0)) :
  MetFree l own_m27 (head1 (Jvm.Cond.code own_m27 jdk_65_method_121_code 3 (some (.array .byte)) :: ws) (own_r 1 1 6 18)) (fun a U => a = #[(.ref a1), (.int 6)] ∧ Z.Warmed39 U.vm ∧ U.heap = h0) (fun _ _ _ _ _ => True) (fun _ U o U' => ∃ v L, o = .returned v ∧ Qco2 Z a1 k1 v0 v1 h0 n0 v U'.heap L ∧ FrameEnd U o U' L (own_r 1 1 6 18).cells (own_r 1 1 6 18).slots) := by
 refine MetFree.of_bodySF (plainFor_of_name pn_27) hisR ?_
 intro p e s m args below meth c s₁ Bd hml0 hP hK
 have H : ∀ (i : Nat) {d : Jvm.Cond}, tables_1[i]? = some d → d.before a0 Z = true := fun i _ h => hw _ (own_w i h)
 obtain ⟨rfl, hZ, hh⟩ := hP
 have hx := Bd.exec
 have hby := Bd.bytes
 have hml : c.maxLocals = 3 := hml0
 have hown0 := findClass_of_methodNamed Bd.named
 have hown : s.vm.findClass "java/util/Arrays" = some m.cls := hown0
 have hnm := (name_of_methodNamed Bd.named Bd.method).1
 have X0 : Stand p l e (own_r 1 1 6 18) s m #[(.ref a1), (.int 6)] below meth c s₁ [] 0 0 := Stand.of_body Bd
 have e0 : s₁.heap = h0 := by rw [← hh, Bd.state]; rfl
 have N0 := Fr.nil n0
 obtain ⟨S0, hS0⟩ : ∃ z, z = s₁.setTop (entryFrame m #[(.ref a1), (.int 6)] 3) := ⟨_, rfl⟩
 have pre0 : own_Go p e below S0 (s₁.setTop (mkF m 0 #[vR a1, vI 6, .unset] [])) := fun t k => by rw [hS0]; exact castTop (ef_co2 m a1) k
 have fin : ∀ t, Steps p.tables e below S0 t → Steps p.tables e below (s₁.setTop (entryFrame m #[(.ref a1), (.int 6)] 3)) t := fun t k => by rw [hS0] at k; exact k
 have kc0 : Keep h0 h0 [] := Keep.refl _ _
 have pre1 : own_Go p e below S0 (s₁.setTop (mkF m 2 #[vR a1, vI 6, .unset] [(.ref a1), (.int 6)])) := by
  intro t kt
  refine pre0 t ?_
  refine XS.iloadN X0.here hx rfl (hb hby d27_0) rfl ?_
  refine XS.aloadN X0.here hx rfl (hb hby d27_1) rfl rfl ?_
  exact kt
 obtain ⟨cl2, Ar2, -, Sz2, Ng2, -, -⟩ := id V1
 have pre3 : own_Go p e below S0 (s₁.setTop (mkF m 15 #[vR a1, vI 6, .unset] [(.int 6)])) := by
  intro t kt
  refine pre1 t ?_
  refine X0.arraylength hx (by rw [e0]; exact Ar2.1) (State.isArrayOf_alike hZ.alike Ar2.2.1) (g := (own_top pre1)) rfl rfl (hb hby d27_2) _ ?_
  rw [len_of Sz2 Ng2]
  show Steps p.tables e below (s₁.setTop (mkF m 3 #[vR a1, vI 6, .unset] [(.int 2), (.int 6)])) _
  refine XS.icmpYes X0.here hx rfl (pc0 := 3) (pc' := 14) rfl (hb hby d27_3) rfl (feq (by decide : ¬ ((6 : Int32) = (2 : Int32)))).2 (by decide) (by decide) ?_
  refine XS.iloadN X0.here hx rfl (hb hby d27_14) rfl ?_
  exact kt
 obtain ⟨T4, h4, k4, X4, e4, E4, A4, Ax4, st4⟩ := newPE X0 hx hZ (H 0 rfl) e0 (g := (own_top pre3)) rfl (hb hby d27_15) rfl (by decide) (cap := 6) (by decide) (by decide) (by decide) (by decide) (ad := "[B") (by decide)
 obtain ⟨b4, g4⟩ : ∃ z, z = h0.size := ⟨_, rfl⟩
 rw [← g4] at A4 Ax4 st4
 have ne5 : a1 ≠ b4 := Nat.ne_of_lt (Nat.lt_of_lt_of_le V1.lt (Nat.le_of_eq g4.symm))
 have ge6 : n0 ≤ b4 := Nat.le_trans Z0 (Nat.le_of_eq g4.symm)
 have sz7 : h0.size ≤ b4 := Nat.le_trans kc0.1 (Nat.le_of_eq g4.symm)
 have zs8 : n0 ≤ h4.size := Nat.le_trans Z0 E4.1
 have kc9 : Keep h0 h4 [] := kc0.ext E4
 have V4 : Arv Z h4 b4 k4 .byte (6 : Int32) [(.int 0), (.int 0), (.int 0), (.int 0), (.int 0), (.int 0)] (.int 0) := (Arv.new A4 (by decide)).pad (pad_rep [] (.int 0) 6)
 have pre10 : own_Go p e below S0 (T4.setTop (mkF m 23 #[vR a1, vI 6, vR b4] [(.ref a1), (.int 0), (.ref b4), (.int 0), (.ref a1)])) := by
  intro t kt
  refine pre3 t ?_
  refine st4 _ ?_
  refine XS.astoreN X4.here hx rfl (hb hby d27_17) rfl rfl (l' := #[vR a1, vI 6, vR b4]) rfl ?_
  refine XS.aloadN X4.here hx rfl (hb hby d27_18) rfl rfl ?_
  refine XS.iconst X4.here hx rfl (hb hby d27_19) ?_
  refine XS.aloadN X4.here hx rfl (hb hby d27_20) rfl rfl ?_
  refine XS.iconst X4.here hx rfl (hb hby d27_21) ?_
  refine XS.aloadN X4.here hx rfl (hb hby d27_22) rfl rfl ?_
  exact kt
 have f11 : Arv Z h4 a1 k1 .byte (2 : Int32) [v0, v1] (.int 0) := (V1.ext E4)
 obtain ⟨cl12, Ar12, -, Sz12, Ng12, -, -⟩ := id f11
 have pre13 : own_Go p e below S0 (T4.setTop (mkF m 25 #[vR a1, vI 6, vR b4] [(.int 6), (.int 2), (.int 0), (.ref b4), (.int 0), (.ref a1)])) := by
  intro t kt
  refine pre10 t ?_
  refine X4.arraylength hx (by rw [e4]; exact Ar12.1) (State.isArrayOf_alike hZ.alike Ar12.2.1) (g := (own_top pre10)) rfl rfl (hb hby d27_23) _ ?_
  rw [len_of Sz12 Ng12]
  show Steps p.tables e below (T4.setTop (mkF m 24 #[vR a1, vI 6, vR b4] [(.int 2), (.int 0), (.ref b4), (.int 0), (.ref a1)])) _
  refine XS.iloadN X4.here hx rfl (hb hby d27_24) rfl ?_
  exact kt
 obtain ⟨_, _, ⟨T14, L14, k14, n14⟩, -, X14, ⟨Lc14, hQ14, l14, y14, z14⟩, st14⟩ := Jvm.LawKit.callS X4 hx (y := own_m12) hown (mvT hZ (H 151 rfl)) (mvT hZ (H 152 rfl)) (mvT hZ (H 144 rfl)) (mvT hZ (H 153 rfl)) (by decide) (backOf (W := 4) (rm28 l Z a0 hw [] (2 : Int32) (6 : Int32) h4 n0 zs8 ) hZ (H 153 rfl) (H 144 rfl) (by decide) (by decide)) (g := (own_top pre13)) rfl (by rw [hml]; rfl) (argsL := [(.int 2), (.int 6)]) (rest := [(.int 0), (.ref b4), (.int 0), (.ref a1)]) (lenOf pd_0 rfl) rfl (by show 2 * 0 + _ ≤ _; exact Nat.le_of_eq rfl) (hb hby d27_25) (fun _ _ => ⟨rfl, e4, (by decide : 1 + 0 ≤ _), (by decide : 6 + 0 ≤ _)⟩)
 dsimp only [Pt.U, Pt.locs, Pt.cells, Pt.slots] at X14 l14 y14 z14 st14 hQ14
 subst l14 y14 z14
 obtain ⟨rfl, Nq14, eq14⟩ := hQ14
 have N14 := Fr.app N0 Nq14
 have pre15 : own_Go p e below S0 (T14.setTop (mkF m 28 #[vR a1, vI 6, vR b4] [(.int (own_mn (2 : Int32) (6 : Int32))), (.int 0), (.ref b4), (.int 0), (.ref a1)])) := by
  intro t kt
  refine pre13 t ?_
  refine st14 _ ?_
  show Steps p.tables e below (T14.setTop (mkF m 28 #[vR a1, vI 6, vR b4] [(.int (own_mn (2 : Int32) (6 : Int32))), (.int 0), (.ref b4), (.int 0), (.ref a1)])) _
  exact kt
 have pre16 : own_Go p e below S0 (T14.setTop (mkF m 28 #[vR a1, vI 6, vR b4] [(.int 2), (.int 0), (.ref b4), (.int 0), (.ref a1)])) := by
  intro t kt
  refine pre15 t ?_
  rw [(by decide : (own_mn (2 : Int32) (6 : Int32)) = (2 : Int32))]
  exact kt
 obtain ⟨T17, h17, L17, X17, e17, N17, K17, V17, st17⟩ := cpA X14 hx hZ hown (H 154 rfl) (H 157 rfl) (H 155 rfl) (H 156 rfl) eq14 f11 V4 (us := [v0, v1]) (Or.inl ⟨rfl, rfl⟩) (by decide) (by decide) (by decide) (by decide) (by decide) rfl (by decide) N14 ge6 (g := (own_top pre16)) rfl (by rw [hml]; rfl) rfl (hb hby d27_28) (by decide) (W := 0) (by show 2 * 0 + _ ≤ _; exact Nat.le_of_eq rfl) (by decide)
 have zs18 : n0 ≤ h17.size := Nat.le_trans zs8 K17.1
 have kc19 : Keep h0 h17 [] := kc9.trans K17 (allS (Or.inr sz7) all0)
 have V17q : Arv Z h17 b4 k4 .byte (6 : Int32) [v0, v1, (.int 0), (.int 0), (.int 0), (.int 0)] (.int 0) := V17
 have pre20 : own_Go p e below S0 (T17.setTop (mkF m 32 #[vR a1, vI 6, vR b4] [(.ref b4)])) := by
  intro t kt
  refine pre16 t ?_
  refine st17 _ ?_
  refine XS.aloadN X17.here hx rfl (hb hby d27_31) rfl rfl ?_
  exact kt
 obtain ⟨fs, hr, hrun, hended, hW, hsame⟩ := X17.leave (v := some (.ref b4)) (fun h => by rw [Bd.returns] at h; cases h)
 refine ⟨_, _, fin _ (pre20 _ ?_), hrun, hended, _, _, rfl, ?_, ⟨_, rfl⟩, hW, hsame.mono (by decide) (by decide)⟩
 ·jvm_step X17.here [X17.here.top, hx, (hb hby d27_32), X17.method', Bd.returns, Value.isRef, FieldType.isReference]
  first | (intro acts; rw [hr _ acts rfl rfl rfl]) | rw [hr _ _ rfl rfl rfl]
  exact Steps.refl _
 have f21 : Exa Z h17 b4 "[B" := (Ax4.keep K17)
 ·show Qco2 Z a1 k1 v0 v1 h0 n0 _ T17.heap _
  rw [e17]
  exact ⟨b4, k4, rfl, N17, kc19, sz7, f21, V17q⟩

theorem ef_co3 (m : MethodId) (x0 : Addr) : entryFrame m #[(.ref x0), (.int 8)] 3 = mkF m 0 #[vR x0, vI 8, .unset] [] := by first | (simp [entryFrame, mkF, argsToLocals, Value.category]; done) | rfl
def Qco3 (Z : State) (a1 : Addr) (k1 : ClassId) (v0 : Value) (v1 : Value) (v2 : Value) (h0 : Heap) (n0 : Nat) (v : Option Value) (h : Heap) (L : List Loc) : Prop := ∃ b : Addr, ∃ kb : ClassId, v = (some (.ref b)) ∧ Fr n0 L ∧ Keep h0 h [] ∧ h0.size ≤ b ∧ Exa Z h b "[B" ∧ Arv Z h b kb .byte (8 : Int32) [v0, v1, v2, (.int 0), (.int 0), (.int 0), (.int 0), (.int 0)] (.int 0)
set_option maxRecDepth 65536 in
set_option maxHeartbeats 40000000 in
theorem rmco3 (l : Launch) (Z : State) (a0 : Array Value) (hw : ∀ d ∈ tables_1, d.before a0 Z = true) (ws : List Jvm.Cond) (a1 : Addr) (k1 : ClassId) (v0 : Value) (v1 : Value) (v2 : Value) (h0 : Heap) (n0 : Nat) (Z0 : n0 ≤ h0.size) (V1 : Arv Z h0 a1 k1 .byte (3 : Int32) [v0, v1, v2] (.int 0)) :
  MetFree l own_m27 (head1 (Jvm.Cond.code own_m27 jdk_65_method_121_code 3 (some (.array .byte)) :: ws) (own_r 1 1 8 18)) (fun a U => a = #[(.ref a1), (.int 8)] ∧ Z.Warmed39 U.vm ∧ U.heap = h0) (fun _ _ _ _ _ => True) (fun _ U o U' => ∃ v L, o = .returned v ∧ Qco3 Z a1 k1 v0 v1 v2 h0 n0 v U'.heap L ∧ FrameEnd U o U' L (own_r 1 1 8 18).cells (own_r 1 1 8 18).slots) := by
 refine MetFree.of_bodySF (plainFor_of_name pn_27) hisR ?_
 intro p e s m args below meth c s₁ Bd hml0 hP hK
 have H : ∀ (i : Nat) {d : Jvm.Cond}, tables_1[i]? = some d → d.before a0 Z = true := fun i _ h => hw _ (own_w i h)
 obtain ⟨rfl, hZ, hh⟩ := hP
 have hx := Bd.exec
 have hby := Bd.bytes
 have hml : c.maxLocals = 3 := hml0
 have hown0 := findClass_of_methodNamed Bd.named
 have hown : s.vm.findClass "java/util/Arrays" = some m.cls := hown0
 have hnm := (name_of_methodNamed Bd.named Bd.method).1
 have X0 : Stand p l e (own_r 1 1 8 18) s m #[(.ref a1), (.int 8)] below meth c s₁ [] 0 0 := Stand.of_body Bd
 have e0 : s₁.heap = h0 := by rw [← hh, Bd.state]; rfl
 have N0 := Fr.nil n0
 obtain ⟨S0, hS0⟩ : ∃ z, z = s₁.setTop (entryFrame m #[(.ref a1), (.int 8)] 3) := ⟨_, rfl⟩
 have pre0 : own_Go p e below S0 (s₁.setTop (mkF m 0 #[vR a1, vI 8, .unset] [])) := fun t k => by rw [hS0]; exact castTop (ef_co3 m a1) k
 have fin : ∀ t, Steps p.tables e below S0 t → Steps p.tables e below (s₁.setTop (entryFrame m #[(.ref a1), (.int 8)] 3)) t := fun t k => by rw [hS0] at k; exact k
 have kc0 : Keep h0 h0 [] := Keep.refl _ _
 have pre1 : own_Go p e below S0 (s₁.setTop (mkF m 2 #[vR a1, vI 8, .unset] [(.ref a1), (.int 8)])) := by
  intro t kt
  refine pre0 t ?_
  refine XS.iloadN X0.here hx rfl (hb hby d27_0) rfl ?_
  refine XS.aloadN X0.here hx rfl (hb hby d27_1) rfl rfl ?_
  exact kt
 obtain ⟨cl2, Ar2, -, Sz2, Ng2, -, -⟩ := id V1
 have pre3 : own_Go p e below S0 (s₁.setTop (mkF m 15 #[vR a1, vI 8, .unset] [(.int 8)])) := by
  intro t kt
  refine pre1 t ?_
  refine X0.arraylength hx (by rw [e0]; exact Ar2.1) (State.isArrayOf_alike hZ.alike Ar2.2.1) (g := (own_top pre1)) rfl rfl (hb hby d27_2) _ ?_
  rw [len_of Sz2 Ng2]
  show Steps p.tables e below (s₁.setTop (mkF m 3 #[vR a1, vI 8, .unset] [(.int 3), (.int 8)])) _
  refine XS.icmpYes X0.here hx rfl (pc0 := 3) (pc' := 14) rfl (hb hby d27_3) rfl (feq (by decide : ¬ ((8 : Int32) = (3 : Int32)))).2 (by decide) (by decide) ?_
  refine XS.iloadN X0.here hx rfl (hb hby d27_14) rfl ?_
  exact kt
 obtain ⟨T4, h4, k4, X4, e4, E4, A4, Ax4, st4⟩ := newPE X0 hx hZ (H 0 rfl) e0 (g := (own_top pre3)) rfl (hb hby d27_15) rfl (by decide) (cap := 8) (by decide) (by decide) (by decide) (by decide) (ad := "[B") (by decide)
 obtain ⟨b4, g4⟩ : ∃ z, z = h0.size := ⟨_, rfl⟩
 rw [← g4] at A4 Ax4 st4
 have ne5 : a1 ≠ b4 := Nat.ne_of_lt (Nat.lt_of_lt_of_le V1.lt (Nat.le_of_eq g4.symm))
 have ge6 : n0 ≤ b4 := Nat.le_trans Z0 (Nat.le_of_eq g4.symm)
 have sz7 : h0.size ≤ b4 := Nat.le_trans kc0.1 (Nat.le_of_eq g4.symm)
 have zs8 : n0 ≤ h4.size := Nat.le_trans Z0 E4.1
 have kc9 : Keep h0 h4 [] := kc0.ext E4
 have V4 : Arv Z h4 b4 k4 .byte (8 : Int32) [(.int 0), (.int 0), (.int 0), (.int 0), (.int 0), (.int 0), (.int 0), (.int 0)] (.int 0) := (Arv.new A4 (by decide)).pad (pad_rep [] (.int 0) 8)
 have pre10 : own_Go p e below S0 (T4.setTop (mkF m 23 #[vR a1, vI 8, vR b4] [(.ref a1), (.int 0), (.ref b4), (.int 0), (.ref a1)])) := by
  intro t kt
  refine pre3 t ?_
  refine st4 _ ?_
  refine XS.astoreN X4.here hx rfl (hb hby d27_17) rfl rfl (l' := #[vR a1, vI 8, vR b4]) rfl ?_
  refine XS.aloadN X4.here hx rfl (hb hby d27_18) rfl rfl ?_
  refine XS.iconst X4.here hx rfl (hb hby d27_19) ?_
  refine XS.aloadN X4.here hx rfl (hb hby d27_20) rfl rfl ?_
  refine XS.iconst X4.here hx rfl (hb hby d27_21) ?_
  refine XS.aloadN X4.here hx rfl (hb hby d27_22) rfl rfl ?_
  exact kt
 have f11 : Arv Z h4 a1 k1 .byte (3 : Int32) [v0, v1, v2] (.int 0) := (V1.ext E4)
 obtain ⟨cl12, Ar12, -, Sz12, Ng12, -, -⟩ := id f11
 have pre13 : own_Go p e below S0 (T4.setTop (mkF m 25 #[vR a1, vI 8, vR b4] [(.int 8), (.int 3), (.int 0), (.ref b4), (.int 0), (.ref a1)])) := by
  intro t kt
  refine pre10 t ?_
  refine X4.arraylength hx (by rw [e4]; exact Ar12.1) (State.isArrayOf_alike hZ.alike Ar12.2.1) (g := (own_top pre10)) rfl rfl (hb hby d27_23) _ ?_
  rw [len_of Sz12 Ng12]
  show Steps p.tables e below (T4.setTop (mkF m 24 #[vR a1, vI 8, vR b4] [(.int 3), (.int 0), (.ref b4), (.int 0), (.ref a1)])) _
  refine XS.iloadN X4.here hx rfl (hb hby d27_24) rfl ?_
  exact kt
 obtain ⟨_, _, ⟨T14, L14, k14, n14⟩, -, X14, ⟨Lc14, hQ14, l14, y14, z14⟩, st14⟩ := Jvm.LawKit.callS X4 hx (y := own_m12) hown (mvT hZ (H 151 rfl)) (mvT hZ (H 152 rfl)) (mvT hZ (H 144 rfl)) (mvT hZ (H 153 rfl)) (by decide) (backOf (W := 4) (rm28 l Z a0 hw [] (3 : Int32) (8 : Int32) h4 n0 zs8 ) hZ (H 153 rfl) (H 144 rfl) (by decide) (by decide)) (g := (own_top pre13)) rfl (by rw [hml]; rfl) (argsL := [(.int 3), (.int 8)]) (rest := [(.int 0), (.ref b4), (.int 0), (.ref a1)]) (lenOf pd_0 rfl) rfl (by show 2 * 0 + _ ≤ _; exact Nat.le_of_eq rfl) (hb hby d27_25) (fun _ _ => ⟨rfl, e4, (by decide : 1 + 0 ≤ _), (by decide : 8 + 0 ≤ _)⟩)
 dsimp only [Pt.U, Pt.locs, Pt.cells, Pt.slots] at X14 l14 y14 z14 st14 hQ14
 subst l14 y14 z14
 obtain ⟨rfl, Nq14, eq14⟩ := hQ14
 have N14 := Fr.app N0 Nq14
 have pre15 : own_Go p e below S0 (T14.setTop (mkF m 28 #[vR a1, vI 8, vR b4] [(.int (own_mn (3 : Int32) (8 : Int32))), (.int 0), (.ref b4), (.int 0), (.ref a1)])) := by
  intro t kt
  refine pre13 t ?_
  refine st14 _ ?_
  show Steps p.tables e below (T14.setTop (mkF m 28 #[vR a1, vI 8, vR b4] [(.int (own_mn (3 : Int32) (8 : Int32))), (.int 0), (.ref b4), (.int 0), (.ref a1)])) _
  exact kt
 have pre16 : own_Go p e below S0 (T14.setTop (mkF m 28 #[vR a1, vI 8, vR b4] [(.int 3), (.int 0), (.ref b4), (.int 0), (.ref a1)])) := by
  intro t kt
  refine pre15 t ?_
  rw [(by decide : (own_mn (3 : Int32) (8 : Int32)) = (3 : Int32))]
  exact kt
 obtain ⟨T17, h17, L17, X17, e17, N17, K17, V17, st17⟩ := cpA X14 hx hZ hown (H 154 rfl) (H 157 rfl) (H 155 rfl) (H 156 rfl) eq14 f11 V4 (us := [v0, v1, v2]) (Or.inl ⟨rfl, rfl⟩) (by decide) (by decide) (by decide) (by decide) (by decide) rfl (by decide) N14 ge6 (g := (own_top pre16)) rfl (by rw [hml]; rfl) rfl (hb hby d27_28) (by decide) (W := 0) (by show 2 * 0 + _ ≤ _; exact Nat.le_of_eq rfl) (by decide)
 have zs18 : n0 ≤ h17.size := Nat.le_trans zs8 K17.1
 have kc19 : Keep h0 h17 [] := kc9.trans K17 (allS (Or.inr sz7) all0)
 have V17q : Arv Z h17 b4 k4 .byte (8 : Int32) [v0, v1, v2, (.int 0), (.int 0), (.int 0), (.int 0), (.int 0)] (.int 0) := V17
 have pre20 : own_Go p e below S0 (T17.setTop (mkF m 32 #[vR a1, vI 8, vR b4] [(.ref b4)])) := by
  intro t kt
  refine pre16 t ?_
  refine st17 _ ?_
  refine XS.aloadN X17.here hx rfl (hb hby d27_31) rfl rfl ?_
  exact kt
 obtain ⟨fs, hr, hrun, hended, hW, hsame⟩ := X17.leave (v := some (.ref b4)) (fun h => by rw [Bd.returns] at h; cases h)
 refine ⟨_, _, fin _ (pre20 _ ?_), hrun, hended, _, _, rfl, ?_, ⟨_, rfl⟩, hW, hsame.mono (by decide) (by decide)⟩
 ·jvm_step X17.here [X17.here.top, hx, (hb hby d27_32), X17.method', Bd.returns, Value.isRef, FieldType.isReference]
  first | (intro acts; rw [hr _ acts rfl rfl rfl]) | rw [hr _ _ rfl rfl rfl]
  exact Steps.refl _
 have f21 : Exa Z h17 b4 "[B" := (Ax4.keep K17)
 ·show Qco3 Z a1 k1 v0 v1 v2 h0 n0 _ T17.heap _
  rw [e17]
  exact ⟨b4, k4, rfl, N17, kc19, sz7, f21, V17q⟩

theorem ef_co8 (m : MethodId) (x0 : Addr) : entryFrame m #[(.ref x0), (.int 18)] 3 = mkF m 0 #[vR x0, vI 18, .unset] [] := by first | (simp [entryFrame, mkF, argsToLocals, Value.category]; done) | rfl
def Qco8 (Z : State) (a1 : Addr) (k1 : ClassId) (v0 : Value) (v1 : Value) (v2 : Value) (v3 : Value) (v4 : Value) (v5 : Value) (v6 : Value) (v7 : Value) (h0 : Heap) (n0 : Nat) (v : Option Value) (h : Heap) (L : List Loc) : Prop := ∃ b : Addr, ∃ kb : ClassId, v = (some (.ref b)) ∧ Fr n0 L ∧ Keep h0 h [] ∧ h0.size ≤ b ∧ Exa Z h b "[B" ∧ Arv Z h b kb .byte (18 : Int32) [v0, v1, v2, v3, v4, v5, v6, v7, (.int 0), (.int 0), (.int 0), (.int 0), (.int 0), (.int 0), (.int 0), (.int 0), (.int 0), (.int 0)] (.int 0)
set_option maxRecDepth 65536 in
set_option maxHeartbeats 40000000 in
theorem rmco8 (l : Launch) (Z : State) (a0 : Array Value) (hw : ∀ d ∈ tables_1, d.before a0 Z = true) (ws : List Jvm.Cond) (a1 : Addr) (k1 : ClassId) (v0 : Value) (v1 : Value) (v2 : Value) (v3 : Value) (v4 : Value) (v5 : Value) (v6 : Value) (v7 : Value) (h0 : Heap) (n0 : Nat) (Z0 : n0 ≤ h0.size) (V1 : Arv Z h0 a1 k1 .byte (8 : Int32) [v0, v1, v2, v3, v4, v5, v6, v7] (.int 0)) :
  MetFree l own_m27 (head1 (Jvm.Cond.code own_m27 jdk_65_method_121_code 3 (some (.array .byte)) :: ws) (own_r 1 1 18 18)) (fun a U => a = #[(.ref a1), (.int 18)] ∧ Z.Warmed39 U.vm ∧ U.heap = h0) (fun _ _ _ _ _ => True) (fun _ U o U' => ∃ v L, o = .returned v ∧ Qco8 Z a1 k1 v0 v1 v2 v3 v4 v5 v6 v7 h0 n0 v U'.heap L ∧ FrameEnd U o U' L (own_r 1 1 18 18).cells (own_r 1 1 18 18).slots) := by
 refine MetFree.of_bodySF (plainFor_of_name pn_27) hisR ?_
 intro p e s m args below meth c s₁ Bd hml0 hP hK
 have H : ∀ (i : Nat) {d : Jvm.Cond}, tables_1[i]? = some d → d.before a0 Z = true := fun i _ h => hw _ (own_w i h)
 obtain ⟨rfl, hZ, hh⟩ := hP
 have hx := Bd.exec
 have hby := Bd.bytes
 have hml : c.maxLocals = 3 := hml0
 have hown0 := findClass_of_methodNamed Bd.named
 have hown : s.vm.findClass "java/util/Arrays" = some m.cls := hown0
 have hnm := (name_of_methodNamed Bd.named Bd.method).1
 have X0 : Stand p l e (own_r 1 1 18 18) s m #[(.ref a1), (.int 18)] below meth c s₁ [] 0 0 := Stand.of_body Bd
 have e0 : s₁.heap = h0 := by rw [← hh, Bd.state]; rfl
 have N0 := Fr.nil n0
 obtain ⟨S0, hS0⟩ : ∃ z, z = s₁.setTop (entryFrame m #[(.ref a1), (.int 18)] 3) := ⟨_, rfl⟩
 have pre0 : own_Go p e below S0 (s₁.setTop (mkF m 0 #[vR a1, vI 18, .unset] [])) := fun t k => by rw [hS0]; exact castTop (ef_co8 m a1) k
 have fin : ∀ t, Steps p.tables e below S0 t → Steps p.tables e below (s₁.setTop (entryFrame m #[(.ref a1), (.int 18)] 3)) t := fun t k => by rw [hS0] at k; exact k
 have kc0 : Keep h0 h0 [] := Keep.refl _ _
 have pre1 : own_Go p e below S0 (s₁.setTop (mkF m 2 #[vR a1, vI 18, .unset] [(.ref a1), (.int 18)])) := by
  intro t kt
  refine pre0 t ?_
  refine XS.iloadN X0.here hx rfl (hb hby d27_0) rfl ?_
  refine XS.aloadN X0.here hx rfl (hb hby d27_1) rfl rfl ?_
  exact kt
 obtain ⟨cl2, Ar2, -, Sz2, Ng2, -, -⟩ := id V1
 have pre3 : own_Go p e below S0 (s₁.setTop (mkF m 15 #[vR a1, vI 18, .unset] [(.int 18)])) := by
  intro t kt
  refine pre1 t ?_
  refine X0.arraylength hx (by rw [e0]; exact Ar2.1) (State.isArrayOf_alike hZ.alike Ar2.2.1) (g := (own_top pre1)) rfl rfl (hb hby d27_2) _ ?_
  rw [len_of Sz2 Ng2]
  show Steps p.tables e below (s₁.setTop (mkF m 3 #[vR a1, vI 18, .unset] [(.int 8), (.int 18)])) _
  refine XS.icmpYes X0.here hx rfl (pc0 := 3) (pc' := 14) rfl (hb hby d27_3) rfl (feq (by decide : ¬ ((18 : Int32) = (8 : Int32)))).2 (by decide) (by decide) ?_
  refine XS.iloadN X0.here hx rfl (hb hby d27_14) rfl ?_
  exact kt
 obtain ⟨T4, h4, k4, X4, e4, E4, A4, Ax4, st4⟩ := newPE X0 hx hZ (H 0 rfl) e0 (g := (own_top pre3)) rfl (hb hby d27_15) rfl (by decide) (cap := 18) (by decide) (by decide) (by decide) (by decide) (ad := "[B") (by decide)
 obtain ⟨b4, g4⟩ : ∃ z, z = h0.size := ⟨_, rfl⟩
 rw [← g4] at A4 Ax4 st4
 have ne5 : a1 ≠ b4 := Nat.ne_of_lt (Nat.lt_of_lt_of_le V1.lt (Nat.le_of_eq g4.symm))
 have ge6 : n0 ≤ b4 := Nat.le_trans Z0 (Nat.le_of_eq g4.symm)
 have sz7 : h0.size ≤ b4 := Nat.le_trans kc0.1 (Nat.le_of_eq g4.symm)
 have zs8 : n0 ≤ h4.size := Nat.le_trans Z0 E4.1
 have kc9 : Keep h0 h4 [] := kc0.ext E4
 have V4 : Arv Z h4 b4 k4 .byte (18 : Int32) [(.int 0), (.int 0), (.int 0), (.int 0), (.int 0), (.int 0), (.int 0), (.int 0), (.int 0), (.int 0), (.int 0), (.int 0), (.int 0), (.int 0), (.int 0), (.int 0), (.int 0), (.int 0)] (.int 0) := (Arv.new A4 (by decide)).pad (pad_rep [] (.int 0) 18)
 have pre10 : own_Go p e below S0 (T4.setTop (mkF m 23 #[vR a1, vI 18, vR b4] [(.ref a1), (.int 0), (.ref b4), (.int 0), (.ref a1)])) := by
  intro t kt
  refine pre3 t ?_
  refine st4 _ ?_
  refine XS.astoreN X4.here hx rfl (hb hby d27_17) rfl rfl (l' := #[vR a1, vI 18, vR b4]) rfl ?_
  refine XS.aloadN X4.here hx rfl (hb hby d27_18) rfl rfl ?_
  refine XS.iconst X4.here hx rfl (hb hby d27_19) ?_
  refine XS.aloadN X4.here hx rfl (hb hby d27_20) rfl rfl ?_
  refine XS.iconst X4.here hx rfl (hb hby d27_21) ?_
  refine XS.aloadN X4.here hx rfl (hb hby d27_22) rfl rfl ?_
  exact kt
 have f11 : Arv Z h4 a1 k1 .byte (8 : Int32) [v0, v1, v2, v3, v4, v5, v6, v7] (.int 0) := (V1.ext E4)
 obtain ⟨cl12, Ar12, -, Sz12, Ng12, -, -⟩ := id f11
 have pre13 : own_Go p e below S0 (T4.setTop (mkF m 25 #[vR a1, vI 18, vR b4] [(.int 18), (.int 8), (.int 0), (.ref b4), (.int 0), (.ref a1)])) := by
  intro t kt
  refine pre10 t ?_
  refine X4.arraylength hx (by rw [e4]; exact Ar12.1) (State.isArrayOf_alike hZ.alike Ar12.2.1) (g := (own_top pre10)) rfl rfl (hb hby d27_23) _ ?_
  rw [len_of Sz12 Ng12]
  show Steps p.tables e below (T4.setTop (mkF m 24 #[vR a1, vI 18, vR b4] [(.int 8), (.int 0), (.ref b4), (.int 0), (.ref a1)])) _
  refine XS.iloadN X4.here hx rfl (hb hby d27_24) rfl ?_
  exact kt
 obtain ⟨_, _, ⟨T14, L14, k14, n14⟩, -, X14, ⟨Lc14, hQ14, l14, y14, z14⟩, st14⟩ := Jvm.LawKit.callS X4 hx (y := own_m12) hown (mvT hZ (H 151 rfl)) (mvT hZ (H 152 rfl)) (mvT hZ (H 144 rfl)) (mvT hZ (H 153 rfl)) (by decide) (backOf (W := 4) (rm28 l Z a0 hw [] (8 : Int32) (18 : Int32) h4 n0 zs8 ) hZ (H 153 rfl) (H 144 rfl) (by decide) (by decide)) (g := (own_top pre13)) rfl (by rw [hml]; rfl) (argsL := [(.int 8), (.int 18)]) (rest := [(.int 0), (.ref b4), (.int 0), (.ref a1)]) (lenOf pd_0 rfl) rfl (by show 2 * 0 + _ ≤ _; exact Nat.le_of_eq rfl) (hb hby d27_25) (fun _ _ => ⟨rfl, e4, (by decide : 1 + 0 ≤ _), (by decide : 18 + 0 ≤ _)⟩)
 dsimp only [Pt.U, Pt.locs, Pt.cells, Pt.slots] at X14 l14 y14 z14 st14 hQ14
 subst l14 y14 z14
 obtain ⟨rfl, Nq14, eq14⟩ := hQ14
 have N14 := Fr.app N0 Nq14
 have pre15 : own_Go p e below S0 (T14.setTop (mkF m 28 #[vR a1, vI 18, vR b4] [(.int (own_mn (8 : Int32) (18 : Int32))), (.int 0), (.ref b4), (.int 0), (.ref a1)])) := by
  intro t kt
  refine pre13 t ?_
  refine st14 _ ?_
  show Steps p.tables e below (T14.setTop (mkF m 28 #[vR a1, vI 18, vR b4] [(.int (own_mn (8 : Int32) (18 : Int32))), (.int 0), (.ref b4), (.int 0), (.ref a1)])) _
  exact kt
 have pre16 : own_Go p e below S0 (T14.setTop (mkF m 28 #[vR a1, vI 18, vR b4] [(.int 8), (.int 0), (.ref b4), (.int 0), (.ref a1)])) := by
  intro t kt
  refine pre15 t ?_
  rw [(by decide : (own_mn (8 : Int32) (18 : Int32)) = (8 : Int32))]
  exact kt
 obtain ⟨T17, h17, L17, X17, e17, N17, K17, V17, st17⟩ := cpA X14 hx hZ hown (H 154 rfl) (H 157 rfl) (H 155 rfl) (H 156 rfl) eq14 f11 V4 (us := [v0, v1, v2, v3, v4, v5, v6, v7]) (Or.inl ⟨rfl, rfl⟩) (by decide) (by decide) (by decide) (by decide) (by decide) rfl (by decide) N14 ge6 (g := (own_top pre16)) rfl (by rw [hml]; rfl) rfl (hb hby d27_28) (by decide) (W := 0) (by show 2 * 0 + _ ≤ _; exact Nat.le_of_eq rfl) (by decide)
 have zs18 : n0 ≤ h17.size := Nat.le_trans zs8 K17.1
 have kc19 : Keep h0 h17 [] := kc9.trans K17 (allS (Or.inr sz7) all0)
 have V17q : Arv Z h17 b4 k4 .byte (18 : Int32) [v0, v1, v2, v3, v4, v5, v6, v7, (.int 0), (.int 0), (.int 0), (.int 0), (.int 0), (.int 0), (.int 0), (.int 0), (.int 0), (.int 0)] (.int 0) := V17
 have pre20 : own_Go p e below S0 (T17.setTop (mkF m 32 #[vR a1, vI 18, vR b4] [(.ref b4)])) := by
  intro t kt
  refine pre16 t ?_
  refine st17 _ ?_
  refine XS.aloadN X17.here hx rfl (hb hby d27_31) rfl rfl ?_
  exact kt
 obtain ⟨fs, hr, hrun, hended, hW, hsame⟩ := X17.leave (v := some (.ref b4)) (fun h => by rw [Bd.returns] at h; cases h)
 refine ⟨_, _, fin _ (pre20 _ ?_), hrun, hended, _, _, rfl, ?_, ⟨_, rfl⟩, hW, hsame.mono (by decide) (by decide)⟩
 ·jvm_step X17.here [X17.here.top, hx, (hb hby d27_32), X17.method', Bd.returns, Value.isRef, FieldType.isReference]
  first | (intro acts; rw [hr _ acts rfl rfl rfl]) | rw [hr _ _ rfl rfl rfl]
  exact Steps.refl _
 have f21 : Exa Z h17 b4 "[B" := (Ax4.keep K17)
 ·show Qco8 Z a1 k1 v0 v1 v2 v3 v4 v5 v6 v7 h0 n0 _ T17.heap _
  rw [e17]
  exact ⟨b4, k4, rfl, N17, kc19, sz7, f21, V17q⟩

theorem d30_0 : decode jdk_65_method_131_code 0 = .ok (.iload_n 1, 1) := by decide +kernel
theorem d30_1 : decode jdk_65_method_131_code 1 = .ok (.iload_n 0, 1) := by decide +kernel
theorem d30_2 : decode jdk_65_method_131_code 2 = .ok (.if_icmp .ge 35, 3) := by decide +kernel
theorem d30_37 : decode jdk_65_method_131_code 37 = .ok (.return_, 1) := by decide +kernel
theorem pn_30 : plainName "java/util/Arrays" = true := by first | (simp [plainName, overriddenIn]; done) | decide +kernel
theorem ef_30 (m : MethodId) (x0 : Int32) (x1 : Int32) : entryFrame m #[(.int x0), (.int x1)] 2 = mkF m 0 #[vI x0, vI x1] [] := by first | (simp [entryFrame, mkF, argsToLocals, Value.category]; done) | rfl
def Q30 (Z : State) (p1 : Int32) (p2 : Int32) (h0 : Heap) (n0 : Nat) (v : Option Value) (h : Heap) (L : List Loc) : Prop := v = none ∧ Fr n0 L ∧ h = h0
set_option maxRecDepth 65536 in
set_option maxHeartbeats 40000000 in
theorem rm30 (l : Launch) (Z : State) (a0 : Array Value) (hw : ∀ d ∈ tables_1, d.before a0 Z = true) (ws : List Jvm.Cond) (p1 : Int32) (p2 : Int32) (h0 : Heap) (n0 : Nat) (Z0 : n0 ≤ h0.size) (h1 : (¬ p2 < p1)) :
  MetFree l own_m26 (head1 (Jvm.Cond.code own_m26 jdk_65_method_131_code 2 none :: ws) (own_r 0 0 0 0)) (fun a U => a = #[(.int p1), (.int p2)] ∧ Z.Warmed39 U.vm ∧ U.heap = h0) (fun _ _ _ _ _ => True) (fun _ U o U' => ∃ v L, o = .returned v ∧ Q30 Z p1 p2 h0 n0 v U'.heap L ∧ FrameEnd U o U' L (own_r 0 0 0 0).cells (own_r 0 0 0 0).slots) := by
 refine MetFree.of_bodySF (plainFor_of_name pn_30) hisR ?_
 intro p e s m args below meth c s₁ Bd hml0 hP hK
 have H : ∀ (i : Nat) {d : Jvm.Cond}, tables_1[i]? = some d → d.before a0 Z = true := fun i _ h => hw _ (own_w i h)
 obtain ⟨rfl, hZ, hh⟩ := hP
 have hx := Bd.exec
 have hby := Bd.bytes
 have hml : c.maxLocals = 2 := hml0
 have hown0 := findClass_of_methodNamed Bd.named
 have hown : s.vm.findClass "java/util/Arrays" = some m.cls := hown0
 have hnm := (name_of_methodNamed Bd.named Bd.method).1
 have X0 : Stand p l e (own_r 0 0 0 0) s m #[(.int p1), (.int p2)] below meth c s₁ [] 0 0 := Stand.of_body Bd
 have e0 : s₁.heap = h0 := by rw [← hh, Bd.state]; rfl
 have N0 := Fr.nil n0
 obtain ⟨S0, hS0⟩ : ∃ z, z = s₁.setTop (entryFrame m #[(.int p1), (.int p2)] 2) := ⟨_, rfl⟩
 have pre0 : own_Go p e below S0 (s₁.setTop (mkF m 0 #[vI p1, vI p2] [])) := fun t k => by rw [hS0]; exact castTop (ef_30 m p1 p2) k
 have fin : ∀ t, Steps p.tables e below S0 t → Steps p.tables e below (s₁.setTop (entryFrame m #[(.int p1), (.int p2)] 2)) t := fun t k => by rw [hS0] at k; exact k
 have pre1 : own_Go p e below S0 (s₁.setTop (mkF m 37 #[vI p1, vI p2] [])) := by
  intro t kt
  refine pre0 t ?_
  refine XS.iloadN X0.here hx rfl (hb hby d30_0) rfl ?_
  refine XS.iloadN X0.here hx rfl (hb hby d30_1) rfl ?_
  refine XS.icmpYes X0.here hx rfl (pc0 := 2) (pc' := 37) rfl (hb hby d30_2) rfl (flt h1).2.1 (by decide) (by decide) ?_
  exact kt
 obtain ⟨fs, hr, hrun, hended, hW, hsame⟩ := X0.leave (v := none) (fun _ => rfl)
 refine ⟨_, _, fin _ (pre1 _ ?_), hrun, hended, _, _, rfl, ?_, ⟨_, rfl⟩, hW, hsame.mono (by decide) (by decide)⟩
 ·exact X0.returnOut hx Bd.returns (hb hby d30_37) hr
 ·show Q30 Z p1 p2 h0 n0 _ s₁.heap _
  rw [e0]
  exact ⟨rfl, N0, rfl⟩

theorem d12_0 : decode jdk_65_method_132_code 0 = .ok (.iload_n 1, 1) := by decide +kernel
theorem d12_1 : decode jdk_65_method_132_code 1 = .ok (.ifCond .ne 9, 3) := by decide +kernel
theorem d12_4 : decode jdk_65_method_132_code 4 = .ok (.iload_n 2, 1) := by decide +kernel
theorem d12_5 : decode jdk_65_method_132_code 5 = .ok (.aload_n 0, 1) := by decide +kernel
theorem d12_6 : decode jdk_65_method_132_code 6 = .ok (.arraylength, 1) := by decide +kernel
theorem d12_7 : decode jdk_65_method_132_code 7 = .ok (.if_icmp .eq 10, 3) := by decide +kernel
theorem d12_17 : decode jdk_65_method_132_code 17 = .ok (.aload_n 0, 1) := by decide +kernel
theorem d12_18 : decode jdk_65_method_132_code 18 = .ok (.invokevirtual 310, 3) := by decide +kernel
theorem d12_21 : decode jdk_65_method_132_code 21 = .ok (.checkcast 311, 3) := by decide +kernel
theorem d12_24 : decode jdk_65_method_132_code 24 = .ok (.areturn, 1) := by decide +kernel
theorem pn_12 : plainName "java/util/Arrays" = true := by first | (simp [plainName, overriddenIn]; done) | decide +kernel
theorem ef_cor0_0 (m : MethodId) (x0 : Addr) : entryFrame m #[(.ref x0), (.int 0), (.int 0)] 3 = mkF m 0 #[vR x0, vI 0, vI 0] [] := by first | (simp [entryFrame, mkF, argsToLocals, Value.category]; done) | rfl
def Qcor0_0 (Z : State) (a1 : Addr) (k1 : ClassId) (h0 : Heap) (n0 : Nat) (v : Option Value) (h : Heap) (L : List Loc) : Prop := ∃ b : Addr, ∃ kb : ClassId, v = (some (.ref b)) ∧ Fr n0 L ∧ Keep h0 h [] ∧ h0.size ≤ b ∧ Arv Z h b kb .byte (0 : Int32) [] (.int 0)
set_option maxRecDepth 65536 in
set_option maxHeartbeats 40000000 in
theorem rmcor0_0 (l : Launch) (Z : State) (a0 : Array Value) (hw : ∀ d ∈ tables_1, d.before a0 Z = true) (ws : List Jvm.Cond) (a1 : Addr) (k1 : ClassId) (h0 : Heap) (n0 : Nat) (Z0 : n0 ≤ h0.size) (pE1 : Exa Z h0 a1 "[B") (V1 : Arv Z h0 a1 k1 .byte (0 : Int32) [] (.int 0)) :
  MetFree l own_m28 (head1 (Jvm.Cond.code own_m28 jdk_65_method_132_code 3 (some (.array .byte)) :: ws) (own_r 3 1 9 60)) (fun a U => a = #[(.ref a1), (.int 0), (.int 0)] ∧ Z.Warmed39 U.vm ∧ U.heap = h0) (fun _ _ _ _ _ => True) (fun _ U o U' => ∃ v L, o = .returned v ∧ Qcor0_0 Z a1 k1 h0 n0 v U'.heap L ∧ FrameEnd U o U' L (own_r 3 1 9 60).cells (own_r 3 1 9 60).slots) := by
 refine MetFree.of_bodySF (plainFor_of_name pn_12) hisR ?_
 intro p e s m args below meth c s₁ Bd hml0 hP hK
 have H : ∀ (i : Nat) {d : Jvm.Cond}, tables_1[i]? = some d → d.before a0 Z = true := fun i _ h => hw _ (own_w i h)
 obtain ⟨rfl, hZ, hh⟩ := hP
 have hx := Bd.exec
 have hby := Bd.bytes
 have hml : c.maxLocals = 3 := hml0
 have hown0 := findClass_of_methodNamed Bd.named
 have hown : s.vm.findClass "java/util/Arrays" = some m.cls := hown0
 have hnm := (name_of_methodNamed Bd.named Bd.method).1
 have X0 : Stand p l e (own_r 3 1 9 60) s m #[(.ref a1), (.int 0), (.int 0)] below meth c s₁ [] 0 0 := Stand.of_body Bd
 have e0 : s₁.heap = h0 := by rw [← hh, Bd.state]; rfl
 have N0 := Fr.nil n0
 obtain ⟨S0, hS0⟩ : ∃ z, z = s₁.setTop (entryFrame m #[(.ref a1), (.int 0), (.int 0)] 3) := ⟨_, rfl⟩
 have pre0 : own_Go p e below S0 (s₁.setTop (mkF m 0 #[vR a1, vI 0, vI 0] [])) := fun t k => by rw [hS0]; exact castTop (ef_cor0_0 m a1) k
 have fin : ∀ t, Steps p.tables e below S0 t → Steps p.tables e below (s₁.setTop (entryFrame m #[(.ref a1), (.int 0), (.int 0)] 3)) t := fun t k => by rw [hS0] at k; exact k
 have kc0 : Keep h0 h0 [] := Keep.refl _ _
 have pre1 : own_Go p e below S0 (s₁.setTop (mkF m 6 #[vR a1, vI 0, vI 0] [(.ref a1), (.int 0)])) := by
  intro t kt
  refine pre0 t ?_
  refine XS.iloadN X0.here hx rfl (hb hby d12_0) rfl ?_
  refine XS.ifNo X0.here hx rfl (hb hby d12_1) rfl ((if0 _ _).trans (teq (by decide : (0 : Int32) = (0 : Int32))).2) ?_
  refine XS.iloadN X0.here hx rfl (hb hby d12_4) rfl ?_
  refine XS.aloadN X0.here hx rfl (hb hby d12_5) rfl rfl ?_
  exact kt
 obtain ⟨cl2, Ar2, -, Sz2, Ng2, -, -⟩ := id V1
 have pre3 : own_Go p e below S0 (s₁.setTop (mkF m 18 #[vR a1, vI 0, vI 0] [(.ref a1)])) := by
  intro t kt
  refine pre1 t ?_
  refine X0.arraylength hx (by rw [e0]; exact Ar2.1) (State.isArrayOf_alike hZ.alike Ar2.2.1) (g := (own_top pre1)) rfl rfl (hb hby d12_6) _ ?_
  rw [len_of Sz2 Ng2]
  show Steps p.tables e below (s₁.setTop (mkF m 7 #[vR a1, vI 0, vI 0] [(.int 0), (.int 0)])) _
  refine XS.icmpYes X0.here hx rfl (pc0 := 7) (pc' := 17) rfl (hb hby d12_7) rfl (teq (by decide : (0 : Int32) = (0 : Int32))).1 (by decide) (by decide) ?_
  refine XS.aloadN X0.here hx rfl (hb hby d12_17) rfl rfl ?_
  exact kt
 obtain ⟨T4, h4, X4, e4, E4, A4, Ax4, st4⟩ := cloneH X0 hx hZ (ad := "[B") hown (H 68 rfl) (H 69 rfl) (H 73 rfl) (H 71 rfl) (H 72 rfl) (H 74 rfl) e0 (V1.arh) pE1 (g := (own_top pre3)) rfl (by rw [hml]; rfl) rfl (hb hby d12_18) (by decide) (W := 0) (by show 2 * 0 + _ ≤ _; exact Nat.le_of_eq rfl) (by decide) (cap := 0) (by decide) (by decide) (by decide)
 obtain ⟨b4, g4⟩ : ∃ z, z = h0.size := ⟨_, rfl⟩
 rw [← g4] at A4 Ax4 st4
 have ne5 : a1 ≠ b4 := Nat.ne_of_lt (Nat.lt_of_lt_of_le pE1.lt (Nat.le_of_eq g4.symm))
 have ge6 : n0 ≤ b4 := Nat.le_trans Z0 (Nat.le_of_eq g4.symm)
 have sz7 : h0.size ≤ b4 := Nat.le_trans kc0.1 (Nat.le_of_eq g4.symm)
 have zs8 : n0 ≤ h4.size := Nat.le_trans Z0 E4.1
 have kc9 : Keep h0 h4 [] := kc0.ext E4
 have V4 : Arv Z h4 b4 k1 .byte (0 : Int32) [] (.int 0) := A4
 have pre10 : own_Go p e below S0 (T4.setTop (mkF m 21 #[vR a1, vI 0, vI 0] [(.ref b4)])) := by
  intro t kt
  refine pre3 t ?_
  refine st4 _ ?_
  exact kt
 obtain ⟨T11, X11, e11, st11⟩ := castY X4 hx hZ hown (H 75 rfl) e4 (Ins.self Ax4) (g := (own_top pre10)) rfl rfl (hb hby d12_21)
 have pre12 : own_Go p e below S0 (T11.setTop (mkF m 24 #[vR a1, vI 0, vI 0] [(.ref b4)])) := by
  intro t kt
  refine pre10 t ?_
  refine st11 _ ?_
  exact kt
 obtain ⟨fs, hr, hrun, hended, hW, hsame⟩ := X11.leave (v := some (.ref b4)) (fun h => by rw [Bd.returns] at h; cases h)
 refine ⟨_, _, fin _ (pre12 _ ?_), hrun, hended, _, _, rfl, ?_, ⟨_, rfl⟩, hW, hsame.mono (by decide) (by decide)⟩
 ·jvm_step X11.here [X11.here.top, hx, (hb hby d12_24), X11.method', Bd.returns, Value.isRef, FieldType.isReference]
  first | (intro acts; rw [hr _ acts rfl rfl rfl]) | rw [hr _ _ rfl rfl rfl]
  exact Steps.refl _
 ·show Qcor0_0 Z a1 k1 h0 n0 _ T11.heap _
  rw [e11]
  exact ⟨b4, k1, rfl, N0, kc9, sz7, V4⟩

theorem ef_cor1_1 (m : MethodId) (x0 : Addr) : entryFrame m #[(.ref x0), (.int 0), (.int 1)] 3 = mkF m 0 #[vR x0, vI 0, vI 1] [] := by first | (simp [entryFrame, mkF, argsToLocals, Value.category]; done) | rfl
def Qcor1_1 (Z : State) (a1 : Addr) (k1 : ClassId) (c0 : Int32) (h0 : Heap) (n0 : Nat) (v : Option Value) (h : Heap) (L : List Loc) : Prop := ∃ b : Addr, ∃ kb : ClassId, v = (some (.ref b)) ∧ Fr n0 L ∧ Keep h0 h [] ∧ h0.size ≤ b ∧ Arv Z h b kb .byte (1 : Int32) [(.int (nar .byte (c0.toInt8.toInt32)))] (.int 0)
set_option maxRecDepth 65536 in
set_option maxHeartbeats 40000000 in
theorem rmcor1_1 (l : Launch) (Z : State) (a0 : Array Value) (hw : ∀ d ∈ tables_1, d.before a0 Z = true) (ws : List Jvm.Cond) (a1 : Addr) (k1 : ClassId) (c0 : Int32) (h0 : Heap) (n0 : Nat) (Z0 : n0 ≤ h0.size) (pE1 : Exa Z h0 a1 "[B") (V1 : Arv Z h0 a1 k1 .byte (1 : Int32) [(.int (nar .byte (c0.toInt8.toInt32)))] (.int 0)) :
  MetFree l own_m28 (head1 (Jvm.Cond.code own_m28 jdk_65_method_132_code 3 (some (.array .byte)) :: ws) (own_r 3 1 9 60)) (fun a U => a = #[(.ref a1), (.int 0), (.int 1)] ∧ Z.Warmed39 U.vm ∧ U.heap = h0) (fun _ _ _ _ _ => True) (fun _ U o U' => ∃ v L, o = .returned v ∧ Qcor1_1 Z a1 k1 c0 h0 n0 v U'.heap L ∧ FrameEnd U o U' L (own_r 3 1 9 60).cells (own_r 3 1 9 60).slots) := by
 refine MetFree.of_bodySF (plainFor_of_name pn_12) hisR ?_
 intro p e s m args below meth c s₁ Bd hml0 hP hK
 have H : ∀ (i : Nat) {d : Jvm.Cond}, tables_1[i]? = some d → d.before a0 Z = true := fun i _ h => hw _ (own_w i h)
 obtain ⟨rfl, hZ, hh⟩ := hP
 have hx := Bd.exec
 have hby := Bd.bytes
 have hml : c.maxLocals = 3 := hml0
 have hown0 := findClass_of_methodNamed Bd.named
 have hown : s.vm.findClass "java/util/Arrays" = some m.cls := hown0
 have hnm := (name_of_methodNamed Bd.named Bd.method).1
 have X0 : Stand p l e (own_r 3 1 9 60) s m #[(.ref a1), (.int 0), (.int 1)] below meth c s₁ [] 0 0 := Stand.of_body Bd
 have e0 : s₁.heap = h0 := by rw [← hh, Bd.state]; rfl
 have N0 := Fr.nil n0
 obtain ⟨S0, hS0⟩ : ∃ z, z = s₁.setTop (entryFrame m #[(.ref a1), (.int 0), (.int 1)] 3) := ⟨_, rfl⟩
 have pre0 : own_Go p e below S0 (s₁.setTop (mkF m 0 #[vR a1, vI 0, vI 1] [])) := fun t k => by rw [hS0]; exact castTop (ef_cor1_1 m a1) k
 have fin : ∀ t, Steps p.tables e below S0 t → Steps p.tables e below (s₁.setTop (entryFrame m #[(.ref a1), (.int 0), (.int 1)] 3)) t := fun t k => by rw [hS0] at k; exact k
 have kc0 : Keep h0 h0 [] := Keep.refl _ _
 have pre1 : own_Go p e below S0 (s₁.setTop (mkF m 6 #[vR a1, vI 0, vI 1] [(.ref a1), (.int 1)])) := by
  intro t kt
  refine pre0 t ?_
  refine XS.iloadN X0.here hx rfl (hb hby d12_0) rfl ?_
  refine XS.ifNo X0.here hx rfl (hb hby d12_1) rfl ((if0 _ _).trans (teq (by decide : (0 : Int32) = (0 : Int32))).2) ?_
  refine XS.iloadN X0.here hx rfl (hb hby d12_4) rfl ?_
  refine XS.aloadN X0.here hx rfl (hb hby d12_5) rfl rfl ?_
  exact kt
 obtain ⟨cl2, Ar2, -, Sz2, Ng2, -, -⟩ := id V1
 have pre3 : own_Go p e below S0 (s₁.setTop (mkF m 18 #[vR a1, vI 0, vI 1] [(.ref a1)])) := by
  intro t kt
  refine pre1 t ?_
  refine X0.arraylength hx (by rw [e0]; exact Ar2.1) (State.isArrayOf_alike hZ.alike Ar2.2.1) (g := (own_top pre1)) rfl rfl (hb hby d12_6) _ ?_
  rw [len_of Sz2 Ng2]
  show Steps p.tables e below (s₁.setTop (mkF m 7 #[vR a1, vI 0, vI 1] [(.int 1), (.int 1)])) _
  refine XS.icmpYes X0.here hx rfl (pc0 := 7) (pc' := 17) rfl (hb hby d12_7) rfl (teq (by decide : (1 : Int32) = (1 : Int32))).1 (by decide) (by decide) ?_
  refine XS.aloadN X0.here hx rfl (hb hby d12_17) rfl rfl ?_
  exact kt
 obtain ⟨T4, h4, X4, e4, E4, A4, Ax4, st4⟩ := cloneH X0 hx hZ (ad := "[B") hown (H 68 rfl) (H 69 rfl) (H 73 rfl) (H 71 rfl) (H 72 rfl) (H 74 rfl) e0 (V1.arh) pE1 (g := (own_top pre3)) rfl (by rw [hml]; rfl) rfl (hb hby d12_18) (by decide) (W := 0) (by show 2 * 0 + _ ≤ _; exact Nat.le_of_eq rfl) (by decide) (cap := 1) (by decide) (by decide) (by decide)
 obtain ⟨b4, g4⟩ : ∃ z, z = h0.size := ⟨_, rfl⟩
 rw [← g4] at A4 Ax4 st4
 have ne5 : a1 ≠ b4 := Nat.ne_of_lt (Nat.lt_of_lt_of_le pE1.lt (Nat.le_of_eq g4.symm))
 have ge6 : n0 ≤ b4 := Nat.le_trans Z0 (Nat.le_of_eq g4.symm)
 have sz7 : h0.size ≤ b4 := Nat.le_trans kc0.1 (Nat.le_of_eq g4.symm)
 have zs8 : n0 ≤ h4.size := Nat.le_trans Z0 E4.1
 have kc9 : Keep h0 h4 [] := kc0.ext E4
 have V4 : Arv Z h4 b4 k1 .byte (1 : Int32) [(.int (nar .byte (c0.toInt8.toInt32)))] (.int 0) := A4
 have pre10 : own_Go p e below S0 (T4.setTop (mkF m 21 #[vR a1, vI 0, vI 1] [(.ref b4)])) := by
  intro t kt
  refine pre3 t ?_
  refine st4 _ ?_
  exact kt
 obtain ⟨T11, X11, e11, st11⟩ := castY X4 hx hZ hown (H 75 rfl) e4 (Ins.self Ax4) (g := (own_top pre10)) rfl rfl (hb hby d12_21)
 have pre12 : own_Go p e below S0 (T11.setTop (mkF m 24 #[vR a1, vI 0, vI 1] [(.ref b4)])) := by
  intro t kt
  refine pre10 t ?_
  refine st11 _ ?_
  exact kt
 obtain ⟨fs, hr, hrun, hended, hW, hsame⟩ := X11.leave (v := some (.ref b4)) (fun h => by rw [Bd.returns] at h; cases h)
 refine ⟨_, _, fin _ (pre12 _ ?_), hrun, hended, _, _, rfl, ?_, ⟨_, rfl⟩, hW, hsame.mono (by decide) (by decide)⟩
 ·jvm_step X11.here [X11.here.top, hx, (hb hby d12_24), X11.method', Bd.returns, Value.isRef, FieldType.isReference]
  first | (intro acts; rw [hr _ acts rfl rfl rfl]) | rw [hr _ _ rfl rfl rfl]
  exact Steps.refl _
 ·show Qcor1_1 Z a1 k1 c0 h0 n0 _ T11.heap _
  rw [e11]
  exact ⟨b4, k1, rfl, N0, kc9, sz7, V4⟩

theorem d29_0 : decode jdk_65_method_133_code 0 = .ok (.iload_n 1, 1) := by decide +kernel
theorem d29_1 : decode jdk_65_method_133_code 1 = .ok (.iload_n 2, 1) := by decide +kernel
theorem d29_2 : decode jdk_65_method_133_code 2 = .ok (.invokestatic 343, 3) := by decide +kernel
theorem d29_5 : decode jdk_65_method_133_code 5 = .ok (.iload_n 2, 1) := by decide +kernel
theorem d29_6 : decode jdk_65_method_133_code 6 = .ok (.iload_n 1, 1) := by decide +kernel
theorem d29_7 : decode jdk_65_method_133_code 7 = .ok (.isub, 1) := by decide +kernel
theorem d29_8 : decode jdk_65_method_133_code 8 = .ok (.istore_n 3, 1) := by decide +kernel
theorem d29_9 : decode jdk_65_method_133_code 9 = .ok (.iload_n 3, 1) := by decide +kernel
theorem d29_10 : decode jdk_65_method_133_code 10 = .ok (.newarray .byte, 2) := by decide +kernel
theorem d29_12 : decode jdk_65_method_133_code 12 = .ok (.astore 4, 2) := by decide +kernel
theorem d29_14 : decode jdk_65_method_133_code 14 = .ok (.aload_n 0, 1) := by decide +kernel
theorem d29_15 : decode jdk_65_method_133_code 15 = .ok (.iload_n 1, 1) := by decide +kernel
theorem d29_16 : decode jdk_65_method_133_code 16 = .ok (.aload 4, 2) := by decide +kernel
theorem d29_18 : decode jdk_65_method_133_code 18 = .ok (.iconst 0, 1) := by decide +kernel
theorem d29_19 : decode jdk_65_method_133_code 19 = .ok (.aload_n 0, 1) := by decide +kernel
theorem d29_20 : decode jdk_65_method_133_code 20 = .ok (.arraylength, 1) := by decide +kernel
theorem d29_21 : decode jdk_65_method_133_code 21 = .ok (.iload_n 1, 1) := by decide +kernel
theorem d29_22 : decode jdk_65_method_133_code 22 = .ok (.isub, 1) := by decide +kernel
theorem d29_23 : decode jdk_65_method_133_code 23 = .ok (.iload_n 3, 1) := by decide +kernel
theorem d29_24 : decode jdk_65_method_133_code 24 = .ok (.invokestatic 304, 3) := by decide +kernel
theorem d29_27 : decode jdk_65_method_133_code 27 = .ok (.invokestatic 150, 3) := by decide +kernel
theorem d29_30 : decode jdk_65_method_133_code 30 = .ok (.aload 4, 2) := by decide +kernel
theorem d29_32 : decode jdk_65_method_133_code 32 = .ok (.areturn, 1) := by decide +kernel
theorem pn_29 : plainName "java/util/Arrays" = true := by first | (simp [plainName, overriddenIn]; done) | decide +kernel
theorem pd_2 : parseMethodDescriptor "(II)V" = some ⟨[.int, .int], none⟩ := by decide +kernel
theorem ef_crb4_3 (m : MethodId) (x0 : Addr) : entryFrame m #[(.ref x0), (.int 0), (.int 3)] 5 = mkF m 0 #[vR x0, vI 0, vI 3, .unset, .unset] [] := by first | (simp [entryFrame, mkF, argsToLocals, Value.category]; done) | rfl
def Qcrb4_3 (Z : State) (a1 : Addr) (k1 : ClassId) (v0 : Value) (v1 : Value) (v2 : Value) (h0 : Heap) (n0 : Nat) (v : Option Value) (h : Heap) (L : List Loc) : Prop := ∃ b : Addr, ∃ kb : ClassId, v = (some (.ref b)) ∧ Fr n0 L ∧ Keep h0 h [] ∧ h0.size ≤ b ∧ Arv Z h b kb .byte (3 : Int32) [v0, v1, v2] (.int 0)
set_option maxRecDepth 65536 in
set_option maxHeartbeats 40000000 in
theorem rmcrb4_3 (l : Launch) (Z : State) (a0 : Array Value) (hw : ∀ d ∈ tables_1, d.before a0 Z = true) (ws : List Jvm.Cond) (a1 : Addr) (k1 : ClassId) (v0 : Value) (v1 : Value) (v2 : Value) (h0 : Heap) (n0 : Nat) (Z0 : n0 ≤ h0.size) (V1 : Arv Z h0 a1 k1 .byte (4 : Int32) [v0, v1, v2, (.int 0)] (.int 0)) :
  MetFree l own_m29 (head1 (Jvm.Cond.code own_m29 jdk_65_method_133_code 5 (some (.array .byte)) :: ws) (own_r 1 1 3 18)) (fun a U => a = #[(.ref a1), (.int 0), (.int 3)] ∧ Z.Warmed39 U.vm ∧ U.heap = h0) (fun _ _ _ _ _ => True) (fun _ U o U' => ∃ v L, o = .returned v ∧ Qcrb4_3 Z a1 k1 v0 v1 v2 h0 n0 v U'.heap L ∧ FrameEnd U o U' L (own_r 1 1 3 18).cells (own_r 1 1 3 18).slots) := by
 refine MetFree.of_bodySF (plainFor_of_name pn_29) hisR ?_
 intro p e s m args below meth c s₁ Bd hml0 hP hK
 have H : ∀ (i : Nat) {d : Jvm.Cond}, tables_1[i]? = some d → d.before a0 Z = true := fun i _ h => hw _ (own_w i h)
 obtain ⟨rfl, hZ, hh⟩ := hP
 have hx := Bd.exec
 have hby := Bd.bytes
 have hml : c.maxLocals = 5 := hml0
 have hown0 := findClass_of_methodNamed Bd.named
 have hown : s.vm.findClass "java/util/Arrays" = some m.cls := hown0
 have hnm := (name_of_methodNamed Bd.named Bd.method).1
 have X0 : Stand p l e (own_r 1 1 3 18) s m #[(.ref a1), (.int 0), (.int 3)] below meth c s₁ [] 0 0 := Stand.of_body Bd
 have e0 : s₁.heap = h0 := by rw [← hh, Bd.state]; rfl
 have N0 := Fr.nil n0
 obtain ⟨S0, hS0⟩ : ∃ z, z = s₁.setTop (entryFrame m #[(.ref a1), (.int 0), (.int 3)] 5) := ⟨_, rfl⟩
 have pre0 : own_Go p e below S0 (s₁.setTop (mkF m 0 #[vR a1, vI 0, vI 3, .unset, .unset] [])) := fun t k => by rw [hS0]; exact castTop (ef_crb4_3 m a1) k
 have fin : ∀ t, Steps p.tables e below S0 t → Steps p.tables e below (s₁.setTop (entryFrame m #[(.ref a1), (.int 0), (.int 3)] 5)) t := fun t k => by rw [hS0] at k; exact k
 have kc0 : Keep h0 h0 [] := Keep.refl _ _
 have pre1 : own_Go p e below S0 (s₁.setTop (mkF m 2 #[vR a1, vI 0, vI 3, .unset, .unset] [(.int 3), (.int 0)])) := by
  intro t kt
  refine pre0 t ?_
  refine XS.iloadN X0.here hx rfl (hb hby d29_0) rfl ?_
  refine XS.iloadN X0.here hx rfl (hb hby d29_1) rfl ?_
  exact kt
 obtain ⟨_, _, ⟨T2, L2, k2, n2⟩, -, X2, ⟨Lc2, hQ2, l2, y2, z2⟩, st2⟩ := Jvm.LawKit.callS X0 hx (y := own_m26) hown (mvT hZ (H 161 rfl)) (mvT hZ (H 162 rfl)) (mvT hZ (H 66 rfl)) (mvT hZ (H 163 rfl)) (by decide) (backOf (W := 0) (rm30 l Z a0 hw [] (0 : Int32) (3 : Int32) h0 n0 Z0 (by decide)) hZ (H 163 rfl) (H 66 rfl) (by decide) (by decide)) (g := (own_top pre1)) rfl (by rw [hml]; rfl) (argsL := [(.int 0), (.int 3)]) (rest := []) (lenOf pd_2 rfl) rfl (by show 2 * 0 + _ ≤ _; exact Nat.le_of_eq rfl) (hb hby d29_2) (fun _ _ => ⟨rfl, e0, (by decide : 0 + 0 ≤ _), (by decide : 0 + 0 ≤ _)⟩)
 dsimp only [Pt.U, Pt.locs, Pt.cells, Pt.slots] at X2 l2 y2 z2 st2 hQ2
 subst l2 y2 z2
 obtain ⟨rfl, Nq2, eq2⟩ := hQ2
 have N2 := Fr.app N0 Nq2
 have pre3 : own_Go p e below S0 (T2.setTop (mkF m 10 #[vR a1, vI 0, vI 3, vI 3, .unset] [(.int 3)])) := by
  intro t kt
  refine pre1 t ?_
  refine st2 _ ?_
  show Steps p.tables e below (T2.setTop (mkF m 5 #[vR a1, vI 0, vI 3, .unset, .unset] [])) _
  refine XS.iloadN X2.here hx rfl (hb hby d29_5) rfl ?_
  refine XS.iloadN X2.here hx rfl (hb hby d29_6) rfl ?_
  refine XS.isub X2.here hx rfl (hb hby d29_7) rfl ?_
  refine XS.istoreN X2.here hx rfl (hb hby d29_8) rfl (l' := #[vR a1, vI 0, vI 3, vI 3, .unset]) rfl ?_
  refine XS.iloadN X2.here hx rfl (hb hby d29_9) rfl ?_
  exact kt
 obtain ⟨T4, h4, k4, X4, e4, E4, A4, Ax4, st4⟩ := newPE X2 hx hZ (H 0 rfl) eq2 (g := (own_top pre3)) rfl (hb hby d29_10) rfl (by decide) (cap := 3) (by decide) (by decide) (by decide) (by decide) (ad := "[B") (by decide)
 obtain ⟨b4, g4⟩ : ∃ z, z = h0.size := ⟨_, rfl⟩
 rw [← g4] at A4 Ax4 st4
 have ne5 : a1 ≠ b4 := Nat.ne_of_lt (Nat.lt_of_lt_of_le V1.lt (Nat.le_of_eq g4.symm))
 have ge6 : n0 ≤ b4 := Nat.le_trans Z0 (Nat.le_of_eq g4.symm)
 have sz7 : h0.size ≤ b4 := Nat.le_trans kc0.1 (Nat.le_of_eq g4.symm)
 have zs8 : n0 ≤ h4.size := Nat.le_trans Z0 E4.1
 have kc9 : Keep h0 h4 [] := kc0.ext E4
 have V4 : Arv Z h4 b4 k4 .byte (3 : Int32) [(.int 0), (.int 0), (.int 0)] (.int 0) := (Arv.new A4 (by decide)).pad (pad_rep [] (.int 0) 3)
 have pre10 : own_Go p e below S0 (T4.setTop (mkF m 20 #[vR a1, vI 0, vI 3, vI 3, vR b4] [(.ref a1), (.int 0), (.ref b4), (.int 0), (.ref a1)])) := by
  intro t kt
  refine pre3 t ?_
  refine st4 _ ?_
  refine XS.astore X4.here hx rfl (hb hby d29_12) rfl rfl (l' := #[vR a1, vI 0, vI 3, vI 3, vR b4]) rfl ?_
  refine XS.aloadN X4.here hx rfl (hb hby d29_14) rfl rfl ?_
  refine XS.iloadN X4.here hx rfl (hb hby d29_15) rfl ?_
  refine XS.aload X4.here hx rfl (hb hby d29_16) rfl rfl ?_
  refine XS.iconst X4.here hx rfl (hb hby d29_18) ?_
  refine XS.aloadN X4.here hx rfl (hb hby d29_19) rfl rfl ?_
  exact kt
 have f11 : Arv Z h4 a1 k1 .byte (4 : Int32) [v0, v1, v2, (.int 0)] (.int 0) := (V1.ext E4)
 obtain ⟨cl12, Ar12, -, Sz12, Ng12, -, -⟩ := id f11
 have pre13 : own_Go p e below S0 (T4.setTop (mkF m 24 #[vR a1, vI 0, vI 3, vI 3, vR b4] [(.int 3), (.int 4), (.int 0), (.ref b4), (.int 0), (.ref a1)])) := by
  intro t kt
  refine pre10 t ?_
  refine X4.arraylength hx (by rw [e4]; exact Ar12.1) (State.isArrayOf_alike hZ.alike Ar12.2.1) (g := (own_top pre10)) rfl rfl (hb hby d29_20) _ ?_
  rw [len_of Sz12 Ng12]
  show Steps p.tables e below (T4.setTop (mkF m 21 #[vR a1, vI 0, vI 3, vI 3, vR b4] [(.int 4), (.int 0), (.ref b4), (.int 0), (.ref a1)])) _
  refine XS.iloadN X4.here hx rfl (hb hby d29_21) rfl ?_
  refine XS.isub X4.here hx rfl (hb hby d29_22) rfl ?_
  refine XS.iloadN X4.here hx rfl (hb hby d29_23) rfl ?_
  exact kt
 obtain ⟨_, _, ⟨T14, L14, k14, n14⟩, -, X14, ⟨Lc14, hQ14, l14, y14, z14⟩, st14⟩ := Jvm.LawKit.callS X4 hx (y := own_m12) hown (mvT hZ (H 151 rfl)) (mvT hZ (H 152 rfl)) (mvT hZ (H 144 rfl)) (mvT hZ (H 153 rfl)) (by decide) (backOf (W := 4) (rm28 l Z a0 hw [] (4 : Int32) (3 : Int32) h4 n0 zs8 ) hZ (H 153 rfl) (H 144 rfl) (by decide) (by decide)) (g := (own_top pre13)) rfl (by rw [hml]; rfl) (argsL := [(.int 4), (.int 3)]) (rest := [(.int 0), (.ref b4), (.int 0), (.ref a1)]) (lenOf pd_0 rfl) rfl (by show 2 * 0 + _ ≤ _; exact Nat.le_of_eq rfl) (hb hby d29_24) (fun _ _ => ⟨rfl, e4, (by decide : 1 + 0 ≤ _), (by decide : 3 + 0 ≤ _)⟩)
 dsimp only [Pt.U, Pt.locs, Pt.cells, Pt.slots] at X14 l14 y14 z14 st14 hQ14
 subst l14 y14 z14
 obtain ⟨rfl, Nq14, eq14⟩ := hQ14
 have N14 := Fr.app N2 Nq14
 have pre15 : own_Go p e below S0 (T14.setTop (mkF m 27 #[vR a1, vI 0, vI 3, vI 3, vR b4] [(.int (own_mn (4 : Int32) (3 : Int32))), (.int 0), (.ref b4), (.int 0), (.ref a1)])) := by
  intro t kt
  refine pre13 t ?_
  refine st14 _ ?_
  show Steps p.tables e below (T14.setTop (mkF m 27 #[vR a1, vI 0, vI 3, vI 3, vR b4] [(.int (own_mn (4 : Int32) (3 : Int32))), (.int 0), (.ref b4), (.int 0), (.ref a1)])) _
  exact kt
 have pre16 : own_Go p e below S0 (T14.setTop (mkF m 27 #[vR a1, vI 0, vI 3, vI 3, vR b4] [(.int 3), (.int 0), (.ref b4), (.int 0), (.ref a1)])) := by
  intro t kt
  refine pre15 t ?_
  rw [(by decide : (own_mn (4 : Int32) (3 : Int32)) = (3 : Int32))]
  exact kt
 obtain ⟨T17, h17, L17, X17, e17, N17, K17, V17, st17⟩ := cpA X14 hx hZ hown (H 154 rfl) (H 157 rfl) (H 155 rfl) (H 156 rfl) eq14 f11 V4 (us := [v0, v1, v2]) (Or.inl ⟨rfl, rfl⟩) (by decide) (by decide) (by decide) (by decide) (by decide) rfl (by decide) N14 ge6 (g := (own_top pre16)) rfl (by rw [hml]; rfl) rfl (hb hby d29_27) (by decide) (W := 0) (by show 2 * 0 + _ ≤ _; exact Nat.le_of_eq rfl) (by decide)
 have zs18 : n0 ≤ h17.size := Nat.le_trans zs8 K17.1
 have kc19 : Keep h0 h17 [] := kc9.trans K17 (allS (Or.inr sz7) all0)
 have V17q : Arv Z h17 b4 k4 .byte (3 : Int32) [v0, v1, v2] (.int 0) := V17
 have pre20 : own_Go p e below S0 (T17.setTop (mkF m 32 #[vR a1, vI 0, vI 3, vI 3, vR b4] [(.ref b4)])) := by
  intro t kt
  refine pre16 t ?_
  refine st17 _ ?_
  refine XS.aload X17.here hx rfl (hb hby d29_30) rfl rfl ?_
  exact kt
 obtain ⟨fs, hr, hrun, hended, hW, hsame⟩ := X17.leave (v := some (.ref b4)) (fun h => by rw [Bd.returns] at h; cases h)
 refine ⟨_, _, fin _ (pre20 _ ?_), hrun, hended, _, _, rfl, ?_, ⟨_, rfl⟩, hW, hsame.mono (by decide) (by decide)⟩
 ·jvm_step X17.here [X17.here.top, hx, (hb hby d29_32), X17.method', Bd.returns, Value.isRef, FieldType.isReference]
  first | (intro acts; rw [hr _ acts rfl rfl rfl]) | rw [hr _ _ rfl rfl rfl]
  exact Steps.refl _
 ·show Qcrb4_3 Z a1 k1 v0 v1 v2 h0 n0 _ T17.heap _
  rw [e17]
  exact ⟨b4, k4, rfl, N17, kc19, sz7, V17q⟩

theorem d12_10 : decode jdk_65_method_132_code 10 = .ok (.aload_n 0, 1) := by decide +kernel
theorem d12_11 : decode jdk_65_method_132_code 11 = .ok (.iload_n 1, 1) := by decide +kernel
theorem d12_12 : decode jdk_65_method_132_code 12 = .ok (.iload_n 2, 1) := by decide +kernel
theorem d12_13 : decode jdk_65_method_132_code 13 = .ok (.invokestatic 339, 3) := by decide +kernel
theorem d12_16 : decode jdk_65_method_132_code 16 = .ok (.areturn, 1) := by decide +kernel
theorem pd_3 : parseMethodDescriptor "([BII)[B" = some ⟨[(.array .byte), .int, .int], some (.array .byte)⟩ := by decide +kernel
theorem ef_cor4_3 (m : MethodId) (x0 : Addr) : entryFrame m #[(.ref x0), (.int 0), (.int 3)] 3 = mkF m 0 #[vR x0, vI 0, vI 3] [] := by first | (simp [entryFrame, mkF, argsToLocals, Value.category]; done) | rfl
def Qcor4_3 (Z : State) (a1 : Addr) (k1 : ClassId) (c0 : Int32) (c1 : Int32) (c2 : Int32) (h0 : Heap) (n0 : Nat) (v : Option Value) (h : Heap) (L : List Loc) : Prop := ∃ b : Addr, ∃ kb : ClassId, v = (some (.ref b)) ∧ Fr n0 L ∧ Keep h0 h [] ∧ h0.size ≤ b ∧ Arv Z h b kb .byte (3 : Int32) [(.int (nar .byte (c0.toInt8.toInt32))), (.int (nar .byte (c1.toInt8.toInt32))), (.int (nar .byte (c2.toInt8.toInt32)))] (.int 0)
set_option maxRecDepth 65536 in
set_option maxHeartbeats 40000000 in
theorem rmcor4_3 (l : Launch) (Z : State) (a0 : Array Value) (hw : ∀ d ∈ tables_1, d.before a0 Z = true) (ws : List Jvm.Cond) (a1 : Addr) (k1 : ClassId) (c0 : Int32) (c1 : Int32) (c2 : Int32) (h0 : Heap) (n0 : Nat) (Z0 : n0 ≤ h0.size) (pE1 : Exa Z h0 a1 "[B") (V1 : Arv Z h0 a1 k1 .byte (4 : Int32) [(.int (nar .byte (c0.toInt8.toInt32))), (.int (nar .byte (c1.toInt8.toInt32))), (.int (nar .byte (c2.toInt8.toInt32))), (.int 0)] (.int 0)) :
  MetFree l own_m28 (head1 (Jvm.Cond.code own_m28 jdk_65_method_132_code 3 (some (.array .byte)) :: ws) (own_r 3 1 9 60)) (fun a U => a = #[(.ref a1), (.int 0), (.int 3)] ∧ Z.Warmed39 U.vm ∧ U.heap = h0) (fun _ _ _ _ _ => True) (fun _ U o U' => ∃ v L, o = .returned v ∧ Qcor4_3 Z a1 k1 c0 c1 c2 h0 n0 v U'.heap L ∧ FrameEnd U o U' L (own_r 3 1 9 60).cells (own_r 3 1 9 60).slots) := by
 refine MetFree.of_bodySF (plainFor_of_name pn_12) hisR ?_
 intro p e s m args below meth c s₁ Bd hml0 hP hK
 have H : ∀ (i : Nat) {d : Jvm.Cond}, tables_1[i]? = some d → d.before a0 Z = true := fun i _ h => hw _ (own_w i h)
 obtain ⟨rfl, hZ, hh⟩ := hP
 have hx := Bd.exec
 have hby := Bd.bytes
 have hml : c.maxLocals = 3 := hml0
 have hown0 := findClass_of_methodNamed Bd.named
 have hown : s.vm.findClass "java/util/Arrays" = some m.cls := hown0
 have hnm := (name_of_methodNamed Bd.named Bd.method).1
 have X0 : Stand p l e (own_r 3 1 9 60) s m #[(.ref a1), (.int 0), (.int 3)] below meth c s₁ [] 0 0 := Stand.of_body Bd
 have e0 : s₁.heap = h0 := by rw [← hh, Bd.state]; rfl
 have N0 := Fr.nil n0
 obtain ⟨S0, hS0⟩ : ∃ z, z = s₁.setTop (entryFrame m #[(.ref a1), (.int 0), (.int 3)] 3) := ⟨_, rfl⟩
 have pre0 : own_Go p e below S0 (s₁.setTop (mkF m 0 #[vR a1, vI 0, vI 3] [])) := fun t k => by rw [hS0]; exact castTop (ef_cor4_3 m a1) k
 have fin : ∀ t, Steps p.tables e below S0 t → Steps p.tables e below (s₁.setTop (entryFrame m #[(.ref a1), (.int 0), (.int 3)] 3)) t := fun t k => by rw [hS0] at k; exact k
 have kc0 : Keep h0 h0 [] := Keep.refl _ _
 have pre1 : own_Go p e below S0 (s₁.setTop (mkF m 6 #[vR a1, vI 0, vI 3] [(.ref a1), (.int 3)])) := by
  intro t kt
  refine pre0 t ?_
  refine XS.iloadN X0.here hx rfl (hb hby d12_0) rfl ?_
  refine XS.ifNo X0.here hx rfl (hb hby d12_1) rfl ((if0 _ _).trans (teq (by decide : (0 : Int32) = (0 : Int32))).2) ?_
  refine XS.iloadN X0.here hx rfl (hb hby d12_4) rfl ?_
  refine XS.aloadN X0.here hx rfl (hb hby d12_5) rfl rfl ?_
  exact kt
 obtain ⟨cl2, Ar2, -, Sz2, Ng2, -, -⟩ := id V1
 have pre3 : own_Go p e below S0 (s₁.setTop (mkF m 13 #[vR a1, vI 0, vI 3] [(.int 3), (.int 0), (.ref a1)])) := by
  intro t kt
  refine pre1 t ?_
  refine X0.arraylength hx (by rw [e0]; exact Ar2.1) (State.isArrayOf_alike hZ.alike Ar2.2.1) (g := (own_top pre1)) rfl rfl (hb hby d12_6) _ ?_
  rw [len_of Sz2 Ng2]
  show Steps p.tables e below (s₁.setTop (mkF m 7 #[vR a1, vI 0, vI 3] [(.int 4), (.int 3)])) _
  refine XS.icmpNo X0.here hx rfl (hb hby d12_7) rfl (feq (by decide : ¬ ((3 : Int32) = (4 : Int32)))).1 ?_
  refine XS.aloadN X0.here hx rfl (hb hby d12_10) rfl rfl ?_
  refine XS.iloadN X0.here hx rfl (hb hby d12_11) rfl ?_
  refine XS.iloadN X0.here hx rfl (hb hby d12_12) rfl ?_
  exact kt
 obtain ⟨_, _, ⟨T4, L4, k4, n4⟩, -, X4, ⟨Lc4, hQ4, l4, y4, z4⟩, st4⟩ := Jvm.LawKit.callS X0 hx (y := own_m29) hown (mvT hZ (H 158 rfl)) (mvT hZ (H 159 rfl)) (mvT hZ (H 66 rfl)) (mvT hZ (H 160 rfl)) (by decide) (backOf (W := 0) (rmcrb4_3 l Z a0 hw [] a1 k1 (.int (nar .byte (c0.toInt8.toInt32))) (.int (nar .byte (c1.toInt8.toInt32))) (.int (nar .byte (c2.toInt8.toInt32))) h0 n0 Z0 V1) hZ (H 160 rfl) (H 66 rfl) (by decide) (by decide)) (g := (own_top pre3)) rfl (by rw [hml]; rfl) (argsL := [(.ref a1), (.int 0), (.int 3)]) (rest := []) (lenOf pd_3 rfl) rfl (by show 2 * 0 + _ ≤ _; exact Nat.le_of_eq rfl) (hb hby d12_13) (fun _ _ => ⟨rfl, e0, (by decide : 0 + 1 ≤ _), (by decide : 0 + 3 ≤ _)⟩)
 dsimp only [Pt.U, Pt.locs, Pt.cells, Pt.slots] at X4 l4 y4 z4 st4 hQ4
 subst l4 y4 z4
 obtain ⟨b5, kb6, rfl, Nq4, K4, g7, g8⟩ := hQ4
 have N4 := Fr.app N0 Nq4
 have ne9 : a1 ≠ b5 := Nat.ne_of_lt (Nat.lt_of_lt_of_le pE1.lt g7)
 have ge10 : n0 ≤ b5 := Nat.le_trans Z0 g7
 have sz11 : h0.size ≤ b5 := Nat.le_trans kc0.1 g7
 have zs12 : n0 ≤ T4.heap.size := Nat.le_trans Z0 K4.1
 have kc13 : Keep h0 T4.heap [] := kc0.trans K4 all0
 have pre14 : own_Go p e below S0 (T4.setTop (mkF m 16 #[vR a1, vI 0, vI 3] [(.ref b5)])) := by
  intro t kt
  refine pre3 t ?_
  refine st4 _ ?_
  show Steps p.tables e below (T4.setTop (mkF m 16 #[vR a1, vI 0, vI 3] [(.ref b5)])) _
  exact kt
 obtain ⟨fs, hr, hrun, hended, hW, hsame⟩ := X4.leave (v := some (.ref b5)) (fun h => by rw [Bd.returns] at h; cases h)
 refine ⟨_, _, fin _ (pre14 _ ?_), hrun, hended, _, _, rfl, ?_, ⟨_, rfl⟩, hW, hsame.mono (by decide) (by decide)⟩
 ·jvm_step X4.here [X4.here.top, hx, (hb hby d12_16), X4.method', Bd.returns, Value.isRef, FieldType.isReference]
  first | (intro acts; rw [hr _ acts rfl rfl rfl]) | rw [hr _ _ rfl rfl rfl]
  exact Steps.refl _
 ·show Qcor4_3 Z a1 k1 c0 c1 c2 h0 n0 _ T4.heap _
  exact ⟨b5, kb6, rfl, N4, kc13, sz11, g8⟩

theorem ef_cor2_2 (m : MethodId) (x0 : Addr) : entryFrame m #[(.ref x0), (.int 0), (.int 2)] 3 = mkF m 0 #[vR x0, vI 0, vI 2] [] := by first | (simp [entryFrame, mkF, argsToLocals, Value.category]; done) | rfl
def Qcor2_2 (Z : State) (a1 : Addr) (k1 : ClassId) (c0 : Int32) (c1 : Int32) (h0 : Heap) (n0 : Nat) (v : Option Value) (h : Heap) (L : List Loc) : Prop := ∃ b : Addr, ∃ kb : ClassId, v = (some (.ref b)) ∧ Fr n0 L ∧ Keep h0 h [] ∧ h0.size ≤ b ∧ Arv Z h b kb .byte (2 : Int32) [(.int (nar .byte (c0.toInt8.toInt32))), (.int (nar .byte (c1.toInt8.toInt32)))] (.int 0)
set_option maxRecDepth 65536 in
set_option maxHeartbeats 40000000 in
theorem rmcor2_2 (l : Launch) (Z : State) (a0 : Array Value) (hw : ∀ d ∈ tables_1, d.before a0 Z = true) (ws : List Jvm.Cond) (a1 : Addr) (k1 : ClassId) (c0 : Int32) (c1 : Int32) (h0 : Heap) (n0 : Nat) (Z0 : n0 ≤ h0.size) (pE1 : Exa Z h0 a1 "[B") (V1 : Arv Z h0 a1 k1 .byte (2 : Int32) [(.int (nar .byte (c0.toInt8.toInt32))), (.int (nar .byte (c1.toInt8.toInt32)))] (.int 0)) :
  MetFree l own_m28 (head1 (Jvm.Cond.code own_m28 jdk_65_method_132_code 3 (some (.array .byte)) :: ws) (own_r 3 1 9 60)) (fun a U => a = #[(.ref a1), (.int 0), (.int 2)] ∧ Z.Warmed39 U.vm ∧ U.heap = h0) (fun _ _ _ _ _ => True) (fun _ U o U' => ∃ v L, o = .returned v ∧ Qcor2_2 Z a1 k1 c0 c1 h0 n0 v U'.heap L ∧ FrameEnd U o U' L (own_r 3 1 9 60).cells (own_r 3 1 9 60).slots) := by
 refine MetFree.of_bodySF (plainFor_of_name pn_12) hisR ?_
 intro p e s m args below meth c s₁ Bd hml0 hP hK
 have H : ∀ (i : Nat) {d : Jvm.Cond}, tables_1[i]? = some d → d.before a0 Z = true := fun i _ h => hw _ (own_w i h)
 obtain ⟨rfl, hZ, hh⟩ := hP
 have hx := Bd.exec
 have hby := Bd.bytes
 have hml : c.maxLocals = 3 := hml0
 have hown0 := findClass_of_methodNamed Bd.named
 have hown : s.vm.findClass "java/util/Arrays" = some m.cls := hown0
 have hnm := (name_of_methodNamed Bd.named Bd.method).1
 have X0 : Stand p l e (own_r 3 1 9 60) s m #[(.ref a1), (.int 0), (.int 2)] below meth c s₁ [] 0 0 := Stand.of_body Bd
 have e0 : s₁.heap = h0 := by rw [← hh, Bd.state]; rfl
 have N0 := Fr.nil n0
 obtain ⟨S0, hS0⟩ : ∃ z, z = s₁.setTop (entryFrame m #[(.ref a1), (.int 0), (.int 2)] 3) := ⟨_, rfl⟩
 have pre0 : own_Go p e below S0 (s₁.setTop (mkF m 0 #[vR a1, vI 0, vI 2] [])) := fun t k => by rw [hS0]; exact castTop (ef_cor2_2 m a1) k
 have fin : ∀ t, Steps p.tables e below S0 t → Steps p.tables e below (s₁.setTop (entryFrame m #[(.ref a1), (.int 0), (.int 2)] 3)) t := fun t k => by rw [hS0] at k; exact k
 have kc0 : Keep h0 h0 [] := Keep.refl _ _
 have pre1 : own_Go p e below S0 (s₁.setTop (mkF m 6 #[vR a1, vI 0, vI 2] [(.ref a1), (.int 2)])) := by
  intro t kt
  refine pre0 t ?_
  refine XS.iloadN X0.here hx rfl (hb hby d12_0) rfl ?_
  refine XS.ifNo X0.here hx rfl (hb hby d12_1) rfl ((if0 _ _).trans (teq (by decide : (0 : Int32) = (0 : Int32))).2) ?_
  refine XS.iloadN X0.here hx rfl (hb hby d12_4) rfl ?_
  refine XS.aloadN X0.here hx rfl (hb hby d12_5) rfl rfl ?_
  exact kt
 obtain ⟨cl2, Ar2, -, Sz2, Ng2, -, -⟩ := id V1
 have pre3 : own_Go p e below S0 (s₁.setTop (mkF m 18 #[vR a1, vI 0, vI 2] [(.ref a1)])) := by
  intro t kt
  refine pre1 t ?_
  refine X0.arraylength hx (by rw [e0]; exact Ar2.1) (State.isArrayOf_alike hZ.alike Ar2.2.1) (g := (own_top pre1)) rfl rfl (hb hby d12_6) _ ?_
  rw [len_of Sz2 Ng2]
  show Steps p.tables e below (s₁.setTop (mkF m 7 #[vR a1, vI 0, vI 2] [(.int 2), (.int 2)])) _
  refine XS.icmpYes X0.here hx rfl (pc0 := 7) (pc' := 17) rfl (hb hby d12_7) rfl (teq (by decide : (2 : Int32) = (2 : Int32))).1 (by decide) (by decide) ?_
  refine XS.aloadN X0.here hx rfl (hb hby d12_17) rfl rfl ?_
  exact kt
 obtain ⟨T4, h4, X4, e4, E4, A4, Ax4, st4⟩ := cloneH X0 hx hZ (ad := "[B") hown (H 68 rfl) (H 69 rfl) (H 73 rfl) (H 71 rfl) (H 72 rfl) (H 74 rfl) e0 (V1.arh) pE1 (g := (own_top pre3)) rfl (by rw [hml]; rfl) rfl (hb hby d12_18) (by decide) (W := 0) (by show 2 * 0 + _ ≤ _; exact Nat.le_of_eq rfl) (by decide) (cap := 2) (by decide) (by decide) (by decide)
 obtain ⟨b4, g4⟩ : ∃ z, z = h0.size := ⟨_, rfl⟩
 rw [← g4] at A4 Ax4 st4
 have ne5 : a1 ≠ b4 := Nat.ne_of_lt (Nat.lt_of_lt_of_le pE1.lt (Nat.le_of_eq g4.symm))
 have ge6 : n0 ≤ b4 := Nat.le_trans Z0 (Nat.le_of_eq g4.symm)
 have sz7 : h0.size ≤ b4 := Nat.le_trans kc0.1 (Nat.le_of_eq g4.symm)
 have zs8 : n0 ≤ h4.size := Nat.le_trans Z0 E4.1
 have kc9 : Keep h0 h4 [] := kc0.ext E4
 have V4 : Arv Z h4 b4 k1 .byte (2 : Int32) [(.int (nar .byte (c0.toInt8.toInt32))), (.int (nar .byte (c1.toInt8.toInt32)))] (.int 0) := A4
 have pre10 : own_Go p e below S0 (T4.setTop (mkF m 21 #[vR a1, vI 0, vI 2] [(.ref b4)])) := by
  intro t kt
  refine pre3 t ?_
  refine st4 _ ?_
  exact kt
 obtain ⟨T11, X11, e11, st11⟩ := castY X4 hx hZ hown (H 75 rfl) e4 (Ins.self Ax4) (g := (own_top pre10)) rfl rfl (hb hby d12_21)
 have pre12 : own_Go p e below S0 (T11.setTop (mkF m 24 #[vR a1, vI 0, vI 2] [(.ref b4)])) := by
  intro t kt
  refine pre10 t ?_
  refine st11 _ ?_
  exact kt
 obtain ⟨fs, hr, hrun, hended, hW, hsame⟩ := X11.leave (v := some (.ref b4)) (fun h => by rw [Bd.returns] at h; cases h)
 refine ⟨_, _, fin _ (pre12 _ ?_), hrun, hended, _, _, rfl, ?_, ⟨_, rfl⟩, hW, hsame.mono (by decide) (by decide)⟩
 ·jvm_step X11.here [X11.here.top, hx, (hb hby d12_24), X11.method', Bd.returns, Value.isRef, FieldType.isReference]
  first | (intro acts; rw [hr _ acts rfl rfl rfl]) | rw [hr _ _ rfl rfl rfl]
  exact Steps.refl _
 ·show Qcor2_2 Z a1 k1 c0 c1 h0 n0 _ T11.heap _
  rw [e11]
  exact ⟨b4, k1, rfl, N0, kc9, sz7, V4⟩

theorem ef_crb6_4 (m : MethodId) (x0 : Addr) : entryFrame m #[(.ref x0), (.int 0), (.int 4)] 5 = mkF m 0 #[vR x0, vI 0, vI 4, .unset, .unset] [] := by first | (simp [entryFrame, mkF, argsToLocals, Value.category]; done) | rfl
def Qcrb6_4 (Z : State) (a1 : Addr) (k1 : ClassId) (v0 : Value) (v1 : Value) (v2 : Value) (v3 : Value) (h0 : Heap) (n0 : Nat) (v : Option Value) (h : Heap) (L : List Loc) : Prop := ∃ b : Addr, ∃ kb : ClassId, v = (some (.ref b)) ∧ Fr n0 L ∧ Keep h0 h [] ∧ h0.size ≤ b ∧ Arv Z h b kb .byte (4 : Int32) [v0, v1, v2, v3] (.int 0)
set_option maxRecDepth 65536 in
set_option maxHeartbeats 40000000 in
theorem rmcrb6_4 (l : Launch) (Z : State) (a0 : Array Value) (hw : ∀ d ∈ tables_1, d.before a0 Z = true) (ws : List Jvm.Cond) (a1 : Addr) (k1 : ClassId) (v0 : Value) (v1 : Value) (v2 : Value) (v3 : Value) (h0 : Heap) (n0 : Nat) (Z0 : n0 ≤ h0.size) (V1 : Arv Z h0 a1 k1 .byte (6 : Int32) [v0, v1, v2, v3, (.int 0), (.int 0)] (.int 0)) :
  MetFree l own_m29 (head1 (Jvm.Cond.code own_m29 jdk_65_method_133_code 5 (some (.array .byte)) :: ws) (own_r 1 1 4 18)) (fun a U => a = #[(.ref a1), (.int 0), (.int 4)] ∧ Z.Warmed39 U.vm ∧ U.heap = h0) (fun _ _ _ _ _ => True) (fun _ U o U' => ∃ v L, o = .returned v ∧ Qcrb6_4 Z a1 k1 v0 v1 v2 v3 h0 n0 v U'.heap L ∧ FrameEnd U o U' L (own_r 1 1 4 18).cells (own_r 1 1 4 18).slots) := by
 refine MetFree.of_bodySF (plainFor_of_name pn_29) hisR ?_
 intro p e s m args below meth c s₁ Bd hml0 hP hK
 have H : ∀ (i : Nat) {d : Jvm.Cond}, tables_1[i]? = some d → d.before a0 Z = true := fun i _ h => hw _ (own_w i h)
 obtain ⟨rfl, hZ, hh⟩ := hP
 have hx := Bd.exec
 have hby := Bd.bytes
 have hml : c.maxLocals = 5 := hml0
 have hown0 := findClass_of_methodNamed Bd.named
 have hown : s.vm.findClass "java/util/Arrays" = some m.cls := hown0
 have hnm := (name_of_methodNamed Bd.named Bd.method).1
 have X0 : Stand p l e (own_r 1 1 4 18) s m #[(.ref a1), (.int 0), (.int 4)] below meth c s₁ [] 0 0 := Stand.of_body Bd
 have e0 : s₁.heap = h0 := by rw [← hh, Bd.state]; rfl
 have N0 := Fr.nil n0
 obtain ⟨S0, hS0⟩ : ∃ z, z = s₁.setTop (entryFrame m #[(.ref a1), (.int 0), (.int 4)] 5) := ⟨_, rfl⟩
 have pre0 : own_Go p e below S0 (s₁.setTop (mkF m 0 #[vR a1, vI 0, vI 4, .unset, .unset] [])) := fun t k => by rw [hS0]; exact castTop (ef_crb6_4 m a1) k
 have fin : ∀ t, Steps p.tables e below S0 t → Steps p.tables e below (s₁.setTop (entryFrame m #[(.ref a1), (.int 0), (.int 4)] 5)) t := fun t k => by rw [hS0] at k; exact k
 have kc0 : Keep h0 h0 [] := Keep.refl _ _
 have pre1 : own_Go p e below S0 (s₁.setTop (mkF m 2 #[vR a1, vI 0, vI 4, .unset, .unset] [(.int 4), (.int 0)])) := by
  intro t kt
  refine pre0 t ?_
  refine XS.iloadN X0.here hx rfl (hb hby d29_0) rfl ?_
  refine XS.iloadN X0.here hx rfl (hb hby d29_1) rfl ?_
  exact kt
 obtain ⟨_, _, ⟨T2, L2, k2, n2⟩, -, X2, ⟨Lc2, hQ2, l2, y2, z2⟩, st2⟩ := Jvm.LawKit.callS X0 hx (y := own_m26) hown (mvT hZ (H 161 rfl)) (mvT hZ (H 162 rfl)) (mvT hZ (H 66 rfl)) (mvT hZ (H 163 rfl)) (by decide) (backOf (W := 0) (rm30 l Z a0 hw [] (0 : Int32) (4 : Int32) h0 n0 Z0 (by decide)) hZ (H 163 rfl) (H 66 rfl) (by decide) (by decide)) (g := (own_top pre1)) rfl (by rw [hml]; rfl) (argsL := [(.int 0), (.int 4)]) (rest := []) (lenOf pd_2 rfl) rfl (by show 2 * 0 + _ ≤ _; exact Nat.le_of_eq rfl) (hb hby d29_2) (fun _ _ => ⟨rfl, e0, (by decide : 0 + 0 ≤ _), (by decide : 0 + 0 ≤ _)⟩)
 dsimp only [Pt.U, Pt.locs, Pt.cells, Pt.slots] at X2 l2 y2 z2 st2 hQ2
 subst l2 y2 z2
 obtain ⟨rfl, Nq2, eq2⟩ := hQ2
 have N2 := Fr.app N0 Nq2
 have pre3 : own_Go p e below S0 (T2.setTop (mkF m 10 #[vR a1, vI 0, vI 4, vI 4, .unset] [(.int 4)])) := by
  intro t kt
  refine pre1 t ?_
  refine st2 _ ?_
  show Steps p.tables e below (T2.setTop (mkF m 5 #[vR a1, vI 0, vI 4, .unset, .unset] [])) _
  refine XS.iloadN X2.here hx rfl (hb hby d29_5) rfl ?_
  refine XS.iloadN X2.here hx rfl (hb hby d29_6) rfl ?_
  refine XS.isub X2.here hx rfl (hb hby d29_7) rfl ?_
  refine XS.istoreN X2.here hx rfl (hb hby d29_8) rfl (l' := #[vR a1, vI 0, vI 4, vI 4, .unset]) rfl ?_
  refine XS.iloadN X2.here hx rfl (hb hby d29_9) rfl ?_
  exact kt
 obtain ⟨T4, h4, k4, X4, e4, E4, A4, Ax4, st4⟩ := newPE X2 hx hZ (H 0 rfl) eq2 (g := (own_top pre3)) rfl (hb hby d29_10) rfl (by decide) (cap := 4) (by decide) (by decide) (by decide) (by decide) (ad := "[B") (by decide)
 obtain ⟨b4, g4⟩ : ∃ z, z = h0.size := ⟨_, rfl⟩
 rw [← g4] at A4 Ax4 st4
 have ne5 : a1 ≠ b4 := Nat.ne_of_lt (Nat.lt_of_lt_of_le V1.lt (Nat.le_of_eq g4.symm))
 have ge6 : n0 ≤ b4 := Nat.le_trans Z0 (Nat.le_of_eq g4.symm)
 have sz7 : h0.size ≤ b4 := Nat.le_trans kc0.1 (Nat.le_of_eq g4.symm)
 have zs8 : n0 ≤ h4.size := Nat.le_trans Z0 E4.1
 have kc9 : Keep h0 h4 [] := kc0.ext E4
 have V4 : Arv Z h4 b4 k4 .byte (4 : Int32) [(.int 0), (.int 0), (.int 0), (.int 0)] (.int 0) := (Arv.new A4 (by decide)).pad (pad_rep [] (.int 0) 4)
 have pre10 : own_Go p e below S0 (T4.setTop (mkF m 20 #[vR a1, vI 0, vI 4, vI 4, vR b4] [(.ref a1), (.int 0), (.ref b4), (.int 0), (.ref a1)])) := by
  intro t kt
  refine pre3 t ?_
  refine st4 _ ?_
  refine XS.astore X4.here hx rfl (hb hby d29_12) rfl rfl (l' := #[vR a1, vI 0, vI 4, vI 4, vR b4]) rfl ?_
  refine XS.aloadN X4.here hx rfl (hb hby d29_14) rfl rfl ?_
  refine XS.iloadN X4.here hx rfl (hb hby d29_15) rfl ?_
  refine XS.aload X4.here hx rfl (hb hby d29_16) rfl rfl ?_
  refine XS.iconst X4.here hx rfl (hb hby d29_18) ?_
  refine XS.aloadN X4.here hx rfl (hb hby d29_19) rfl rfl ?_
  exact kt
 have f11 : Arv Z h4 a1 k1 .byte (6 : Int32) [v0, v1, v2, v3, (.int 0), (.int 0)] (.int 0) := (V1.ext E4)
 obtain ⟨cl12, Ar12, -, Sz12, Ng12, -, -⟩ := id f11
 have pre13 : own_Go p e below S0 (T4.setTop (mkF m 24 #[vR a1, vI 0, vI 4, vI 4, vR b4] [(.int 4), (.int 6), (.int 0), (.ref b4), (.int 0), (.ref a1)])) := by
  intro t kt
  refine pre10 t ?_
  refine X4.arraylength hx (by rw [e4]; exact Ar12.1) (State.isArrayOf_alike hZ.alike Ar12.2.1) (g := (own_top pre10)) rfl rfl (hb hby d29_20) _ ?_
  rw [len_of Sz12 Ng12]
  show Steps p.tables e below (T4.setTop (mkF m 21 #[vR a1, vI 0, vI 4, vI 4, vR b4] [(.int 6), (.int 0), (.ref b4), (.int 0), (.ref a1)])) _
  refine XS.iloadN X4.here hx rfl (hb hby d29_21) rfl ?_
  refine XS.isub X4.here hx rfl (hb hby d29_22) rfl ?_
  refine XS.iloadN X4.here hx rfl (hb hby d29_23) rfl ?_
  exact kt
 obtain ⟨_, _, ⟨T14, L14, k14, n14⟩, -, X14, ⟨Lc14, hQ14, l14, y14, z14⟩, st14⟩ := Jvm.LawKit.callS X4 hx (y := own_m12) hown (mvT hZ (H 151 rfl)) (mvT hZ (H 152 rfl)) (mvT hZ (H 144 rfl)) (mvT hZ (H 153 rfl)) (by decide) (backOf (W := 4) (rm28 l Z a0 hw [] (6 : Int32) (4 : Int32) h4 n0 zs8 ) hZ (H 153 rfl) (H 144 rfl) (by decide) (by decide)) (g := (own_top pre13)) rfl (by rw [hml]; rfl) (argsL := [(.int 6), (.int 4)]) (rest := [(.int 0), (.ref b4), (.int 0), (.ref a1)]) (lenOf pd_0 rfl) rfl (by show 2 * 0 + _ ≤ _; exact Nat.le_of_eq rfl) (hb hby d29_24) (fun _ _ => ⟨rfl, e4, (by decide : 1 + 0 ≤ _), (by decide : 4 + 0 ≤ _)⟩)
 dsimp only [Pt.U, Pt.locs, Pt.cells, Pt.slots] at X14 l14 y14 z14 st14 hQ14
 subst l14 y14 z14
 obtain ⟨rfl, Nq14, eq14⟩ := hQ14
 have N14 := Fr.app N2 Nq14
 have pre15 : own_Go p e below S0 (T14.setTop (mkF m 27 #[vR a1, vI 0, vI 4, vI 4, vR b4] [(.int (own_mn (6 : Int32) (4 : Int32))), (.int 0), (.ref b4), (.int 0), (.ref a1)])) := by
  intro t kt
  refine pre13 t ?_
  refine st14 _ ?_
  show Steps p.tables e below (T14.setTop (mkF m 27 #[vR a1, vI 0, vI 4, vI 4, vR b4] [(.int (own_mn (6 : Int32) (4 : Int32))), (.int 0), (.ref b4), (.int 0), (.ref a1)])) _
  exact kt
 have pre16 : own_Go p e below S0 (T14.setTop (mkF m 27 #[vR a1, vI 0, vI 4, vI 4, vR b4] [(.int 4), (.int 0), (.ref b4), (.int 0), (.ref a1)])) := by
  intro t kt
  refine pre15 t ?_
  rw [(by decide : (own_mn (6 : Int32) (4 : Int32)) = (4 : Int32))]
  exact kt
 obtain ⟨T17, h17, L17, X17, e17, N17, K17, V17, st17⟩ := cpA X14 hx hZ hown (H 154 rfl) (H 157 rfl) (H 155 rfl) (H 156 rfl) eq14 f11 V4 (us := [v0, v1, v2, v3]) (Or.inl ⟨rfl, rfl⟩) (by decide) (by decide) (by decide) (by decide) (by decide) rfl (by decide) N14 ge6 (g := (own_top pre16)) rfl (by rw [hml]; rfl) rfl (hb hby d29_27) (by decide) (W := 0) (by show 2 * 0 + _ ≤ _; exact Nat.le_of_eq rfl) (by decide)
 have zs18 : n0 ≤ h17.size := Nat.le_trans zs8 K17.1
 have kc19 : Keep h0 h17 [] := kc9.trans K17 (allS (Or.inr sz7) all0)
 have V17q : Arv Z h17 b4 k4 .byte (4 : Int32) [v0, v1, v2, v3] (.int 0) := V17
 have pre20 : own_Go p e below S0 (T17.setTop (mkF m 32 #[vR a1, vI 0, vI 4, vI 4, vR b4] [(.ref b4)])) := by
  intro t kt
  refine pre16 t ?_
  refine st17 _ ?_
  refine XS.aload X17.here hx rfl (hb hby d29_30) rfl rfl ?_
  exact kt
 obtain ⟨fs, hr, hrun, hended, hW, hsame⟩ := X17.leave (v := some (.ref b4)) (fun h => by rw [Bd.returns] at h; cases h)
 refine ⟨_, _, fin _ (pre20 _ ?_), hrun, hended, _, _, rfl, ?_, ⟨_, rfl⟩, hW, hsame.mono (by decide) (by decide)⟩
 ·jvm_step X17.here [X17.here.top, hx, (hb hby d29_32), X17.method', Bd.returns, Value.isRef, FieldType.isReference]
  first | (intro acts; rw [hr _ acts rfl rfl rfl]) | rw [hr _ _ rfl rfl rfl]
  exact Steps.refl _
 ·show Qcrb6_4 Z a1 k1 v0 v1 v2 v3 h0 n0 _ T17.heap _
  rw [e17]
  exact ⟨b4, k4, rfl, N17, kc19, sz7, V17q⟩

theorem ef_cor6_4 (m : MethodId) (x0 : Addr) : entryFrame m #[(.ref x0), (.int 0), (.int 4)] 3 = mkF m 0 #[vR x0, vI 0, vI 4] [] := by first | (simp [entryFrame, mkF, argsToLocals, Value.category]; done) | rfl
def Qcor6_4 (Z : State) (a1 : Addr) (k1 : ClassId) (c0 : Int32) (c1 : Int32) (c2 : Int32) (c3 : Int32) (h0 : Heap) (n0 : Nat) (v : Option Value) (h : Heap) (L : List Loc) : Prop := ∃ b : Addr, ∃ kb : ClassId, v = (some (.ref b)) ∧ Fr n0 L ∧ Keep h0 h [] ∧ h0.size ≤ b ∧ Arv Z h b kb .byte (4 : Int32) [(.int (nar .byte (c0.toInt8.toInt32))), (.int (nar .byte (c1.toInt8.toInt32))), (.int (nar .byte (c2.toInt8.toInt32))), (.int (nar .byte (c3.toInt8.toInt32)))] (.int 0)
set_option maxRecDepth 65536 in
set_option maxHeartbeats 40000000 in
theorem rmcor6_4 (l : Launch) (Z : State) (a0 : Array Value) (hw : ∀ d ∈ tables_1, d.before a0 Z = true) (ws : List Jvm.Cond) (a1 : Addr) (k1 : ClassId) (c0 : Int32) (c1 : Int32) (c2 : Int32) (c3 : Int32) (h0 : Heap) (n0 : Nat) (Z0 : n0 ≤ h0.size) (pE1 : Exa Z h0 a1 "[B") (V1 : Arv Z h0 a1 k1 .byte (6 : Int32) [(.int (nar .byte (c0.toInt8.toInt32))), (.int (nar .byte (c1.toInt8.toInt32))), (.int (nar .byte (c2.toInt8.toInt32))), (.int (nar .byte (c3.toInt8.toInt32))), (.int 0), (.int 0)] (.int 0)) :
  MetFree l own_m28 (head1 (Jvm.Cond.code own_m28 jdk_65_method_132_code 3 (some (.array .byte)) :: ws) (own_r 3 1 9 60)) (fun a U => a = #[(.ref a1), (.int 0), (.int 4)] ∧ Z.Warmed39 U.vm ∧ U.heap = h0) (fun _ _ _ _ _ => True) (fun _ U o U' => ∃ v L, o = .returned v ∧ Qcor6_4 Z a1 k1 c0 c1 c2 c3 h0 n0 v U'.heap L ∧ FrameEnd U o U' L (own_r 3 1 9 60).cells (own_r 3 1 9 60).slots) := by
 refine MetFree.of_bodySF (plainFor_of_name pn_12) hisR ?_
 intro p e s m args below meth c s₁ Bd hml0 hP hK
 have H : ∀ (i : Nat) {d : Jvm.Cond}, tables_1[i]? = some d → d.before a0 Z = true := fun i _ h => hw _ (own_w i h)
 obtain ⟨rfl, hZ, hh⟩ := hP
 have hx := Bd.exec
 have hby := Bd.bytes
 have hml : c.maxLocals = 3 := hml0
 have hown0 := findClass_of_methodNamed Bd.named
 have hown : s.vm.findClass "java/util/Arrays" = some m.cls := hown0
 have hnm := (name_of_methodNamed Bd.named Bd.method).1
 have X0 : Stand p l e (own_r 3 1 9 60) s m #[(.ref a1), (.int 0), (.int 4)] below meth c s₁ [] 0 0 := Stand.of_body Bd
 have e0 : s₁.heap = h0 := by rw [← hh, Bd.state]; rfl
 have N0 := Fr.nil n0
 obtain ⟨S0, hS0⟩ : ∃ z, z = s₁.setTop (entryFrame m #[(.ref a1), (.int 0), (.int 4)] 3) := ⟨_, rfl⟩
 have pre0 : own_Go p e below S0 (s₁.setTop (mkF m 0 #[vR a1, vI 0, vI 4] [])) := fun t k => by rw [hS0]; exact castTop (ef_cor6_4 m a1) k
 have fin : ∀ t, Steps p.tables e below S0 t → Steps p.tables e below (s₁.setTop (entryFrame m #[(.ref a1), (.int 0), (.int 4)] 3)) t := fun t k => by rw [hS0] at k; exact k
 have kc0 : Keep h0 h0 [] := Keep.refl _ _
 have pre1 : own_Go p e below S0 (s₁.setTop (mkF m 6 #[vR a1, vI 0, vI 4] [(.ref a1), (.int 4)])) := by
  intro t kt
  refine pre0 t ?_
  refine XS.iloadN X0.here hx rfl (hb hby d12_0) rfl ?_
  refine XS.ifNo X0.here hx rfl (hb hby d12_1) rfl ((if0 _ _).trans (teq (by decide : (0 : Int32) = (0 : Int32))).2) ?_
  refine XS.iloadN X0.here hx rfl (hb hby d12_4) rfl ?_
  refine XS.aloadN X0.here hx rfl (hb hby d12_5) rfl rfl ?_
  exact kt
 obtain ⟨cl2, Ar2, -, Sz2, Ng2, -, -⟩ := id V1
 have pre3 : own_Go p e below S0 (s₁.setTop (mkF m 13 #[vR a1, vI 0, vI 4] [(.int 4), (.int 0), (.ref a1)])) := by
  intro t kt
  refine pre1 t ?_
  refine X0.arraylength hx (by rw [e0]; exact Ar2.1) (State.isArrayOf_alike hZ.alike Ar2.2.1) (g := (own_top pre1)) rfl rfl (hb hby d12_6) _ ?_
  rw [len_of Sz2 Ng2]
  show Steps p.tables e below (s₁.setTop (mkF m 7 #[vR a1, vI 0, vI 4] [(.int 6), (.int 4)])) _
  refine XS.icmpNo X0.here hx rfl (hb hby d12_7) rfl (feq (by decide : ¬ ((4 : Int32) = (6 : Int32)))).1 ?_
  refine XS.aloadN X0.here hx rfl (hb hby d12_10) rfl rfl ?_
  refine XS.iloadN X0.here hx rfl (hb hby d12_11) rfl ?_
  refine XS.iloadN X0.here hx rfl (hb hby d12_12) rfl ?_
  exact kt
 obtain ⟨_, _, ⟨T4, L4, k4, n4⟩, -, X4, ⟨Lc4, hQ4, l4, y4, z4⟩, st4⟩ := Jvm.LawKit.callS X0 hx (y := own_m29) hown (mvT hZ (H 158 rfl)) (mvT hZ (H 159 rfl)) (mvT hZ (H 66 rfl)) (mvT hZ (H 160 rfl)) (by decide) (backOf (W := 0) (rmcrb6_4 l Z a0 hw [] a1 k1 (.int (nar .byte (c0.toInt8.toInt32))) (.int (nar .byte (c1.toInt8.toInt32))) (.int (nar .byte (c2.toInt8.toInt32))) (.int (nar .byte (c3.toInt8.toInt32))) h0 n0 Z0 V1) hZ (H 160 rfl) (H 66 rfl) (by decide) (by decide)) (g := (own_top pre3)) rfl (by rw [hml]; rfl) (argsL := [(.ref a1), (.int 0), (.int 4)]) (rest := []) (lenOf pd_3 rfl) rfl (by show 2 * 0 + _ ≤ _; exact Nat.le_of_eq rfl) (hb hby d12_13) (fun _ _ => ⟨rfl, e0, (by decide : 0 + 1 ≤ _), (by decide : 0 + 4 ≤ _)⟩)
 dsimp only [Pt.U, Pt.locs, Pt.cells, Pt.slots] at X4 l4 y4 z4 st4 hQ4
 subst l4 y4 z4
 obtain ⟨b5, kb6, rfl, Nq4, K4, g7, g8⟩ := hQ4
 have N4 := Fr.app N0 Nq4
 have ne9 : a1 ≠ b5 := Nat.ne_of_lt (Nat.lt_of_lt_of_le pE1.lt g7)
 have ge10 : n0 ≤ b5 := Nat.le_trans Z0 g7
 have sz11 : h0.size ≤ b5 := Nat.le_trans kc0.1 g7
 have zs12 : n0 ≤ T4.heap.size := Nat.le_trans Z0 K4.1
 have kc13 : Keep h0 T4.heap [] := kc0.trans K4 all0
 have pre14 : own_Go p e below S0 (T4.setTop (mkF m 16 #[vR a1, vI 0, vI 4] [(.ref b5)])) := by
  intro t kt
  refine pre3 t ?_
  refine st4 _ ?_
  show Steps p.tables e below (T4.setTop (mkF m 16 #[vR a1, vI 0, vI 4] [(.ref b5)])) _
  exact kt
 obtain ⟨fs, hr, hrun, hended, hW, hsame⟩ := X4.leave (v := some (.ref b5)) (fun h => by rw [Bd.returns] at h; cases h)
 refine ⟨_, _, fin _ (pre14 _ ?_), hrun, hended, _, _, rfl, ?_, ⟨_, rfl⟩, hW, hsame.mono (by decide) (by decide)⟩
 ·jvm_step X4.here [X4.here.top, hx, (hb hby d12_16), X4.method', Bd.returns, Value.isRef, FieldType.isReference]
  first | (intro acts; rw [hr _ acts rfl rfl rfl]) | rw [hr _ _ rfl rfl rfl]
  exact Steps.refl _
 ·show Qcor6_4 Z a1 k1 c0 c1 c2 c3 h0 n0 _ T4.heap _
  exact ⟨b5, kb6, rfl, N4, kc13, sz11, g8⟩

theorem ef_cor6_6 (m : MethodId) (x0 : Addr) : entryFrame m #[(.ref x0), (.int 0), (.int 6)] 3 = mkF m 0 #[vR x0, vI 0, vI 6] [] := by first | (simp [entryFrame, mkF, argsToLocals, Value.category]; done) | rfl
def Qcor6_6 (Z : State) (a1 : Addr) (k1 : ClassId) (c0 : Int32) (c1 : Int32) (c2 : Int32) (c3 : Int32) (c4 : Int32) (c5 : Int32) (h0 : Heap) (n0 : Nat) (v : Option Value) (h : Heap) (L : List Loc) : Prop := ∃ b : Addr, ∃ kb : ClassId, v = (some (.ref b)) ∧ Fr n0 L ∧ Keep h0 h [] ∧ h0.size ≤ b ∧ Arv Z h b kb .byte (6 : Int32) [(.int (nar .byte (c0.toInt8.toInt32))), (.int (nar .byte (c1.toInt8.toInt32))), (.int (nar .byte (c2.toInt8.toInt32))), (.int (nar .byte (c3.toInt8.toInt32))), (.int (nar .byte (c4.toInt8.toInt32))), (.int (nar .byte (c5.toInt8.toInt32)))] (.int 0)
set_option maxRecDepth 65536 in
set_option maxHeartbeats 40000000 in
theorem rmcor6_6 (l : Launch) (Z : State) (a0 : Array Value) (hw : ∀ d ∈ tables_1, d.before a0 Z = true) (ws : List Jvm.Cond) (a1 : Addr) (k1 : ClassId) (c0 : Int32) (c1 : Int32) (c2 : Int32) (c3 : Int32) (c4 : Int32) (c5 : Int32) (h0 : Heap) (n0 : Nat) (Z0 : n0 ≤ h0.size) (pE1 : Exa Z h0 a1 "[B") (V1 : Arv Z h0 a1 k1 .byte (6 : Int32) [(.int (nar .byte (c0.toInt8.toInt32))), (.int (nar .byte (c1.toInt8.toInt32))), (.int (nar .byte (c2.toInt8.toInt32))), (.int (nar .byte (c3.toInt8.toInt32))), (.int (nar .byte (c4.toInt8.toInt32))), (.int (nar .byte (c5.toInt8.toInt32)))] (.int 0)) :
  MetFree l own_m28 (head1 (Jvm.Cond.code own_m28 jdk_65_method_132_code 3 (some (.array .byte)) :: ws) (own_r 3 1 9 60)) (fun a U => a = #[(.ref a1), (.int 0), (.int 6)] ∧ Z.Warmed39 U.vm ∧ U.heap = h0) (fun _ _ _ _ _ => True) (fun _ U o U' => ∃ v L, o = .returned v ∧ Qcor6_6 Z a1 k1 c0 c1 c2 c3 c4 c5 h0 n0 v U'.heap L ∧ FrameEnd U o U' L (own_r 3 1 9 60).cells (own_r 3 1 9 60).slots) := by
 refine MetFree.of_bodySF (plainFor_of_name pn_12) hisR ?_
 intro p e s m args below meth c s₁ Bd hml0 hP hK
 have H : ∀ (i : Nat) {d : Jvm.Cond}, tables_1[i]? = some d → d.before a0 Z = true := fun i _ h => hw _ (own_w i h)
 obtain ⟨rfl, hZ, hh⟩ := hP
 have hx := Bd.exec
 have hby := Bd.bytes
 have hml : c.maxLocals = 3 := hml0
 have hown0 := findClass_of_methodNamed Bd.named
 have hown : s.vm.findClass "java/util/Arrays" = some m.cls := hown0
 have hnm := (name_of_methodNamed Bd.named Bd.method).1
 have X0 : Stand p l e (own_r 3 1 9 60) s m #[(.ref a1), (.int 0), (.int 6)] below meth c s₁ [] 0 0 := Stand.of_body Bd
 have e0 : s₁.heap = h0 := by rw [← hh, Bd.state]; rfl
 have N0 := Fr.nil n0
 obtain ⟨S0, hS0⟩ : ∃ z, z = s₁.setTop (entryFrame m #[(.ref a1), (.int 0), (.int 6)] 3) := ⟨_, rfl⟩
 have pre0 : own_Go p e below S0 (s₁.setTop (mkF m 0 #[vR a1, vI 0, vI 6] [])) := fun t k => by rw [hS0]; exact castTop (ef_cor6_6 m a1) k
 have fin : ∀ t, Steps p.tables e below S0 t → Steps p.tables e below (s₁.setTop (entryFrame m #[(.ref a1), (.int 0), (.int 6)] 3)) t := fun t k => by rw [hS0] at k; exact k
 have kc0 : Keep h0 h0 [] := Keep.refl _ _
 have pre1 : own_Go p e below S0 (s₁.setTop (mkF m 6 #[vR a1, vI 0, vI 6] [(.ref a1), (.int 6)])) := by
  intro t kt
  refine pre0 t ?_
  refine XS.iloadN X0.here hx rfl (hb hby d12_0) rfl ?_
  refine XS.ifNo X0.here hx rfl (hb hby d12_1) rfl ((if0 _ _).trans (teq (by decide : (0 : Int32) = (0 : Int32))).2) ?_
  refine XS.iloadN X0.here hx rfl (hb hby d12_4) rfl ?_
  refine XS.aloadN X0.here hx rfl (hb hby d12_5) rfl rfl ?_
  exact kt
 obtain ⟨cl2, Ar2, -, Sz2, Ng2, -, -⟩ := id V1
 have pre3 : own_Go p e below S0 (s₁.setTop (mkF m 18 #[vR a1, vI 0, vI 6] [(.ref a1)])) := by
  intro t kt
  refine pre1 t ?_
  refine X0.arraylength hx (by rw [e0]; exact Ar2.1) (State.isArrayOf_alike hZ.alike Ar2.2.1) (g := (own_top pre1)) rfl rfl (hb hby d12_6) _ ?_
  rw [len_of Sz2 Ng2]
  show Steps p.tables e below (s₁.setTop (mkF m 7 #[vR a1, vI 0, vI 6] [(.int 6), (.int 6)])) _
  refine XS.icmpYes X0.here hx rfl (pc0 := 7) (pc' := 17) rfl (hb hby d12_7) rfl (teq (by decide : (6 : Int32) = (6 : Int32))).1 (by decide) (by decide) ?_
  refine XS.aloadN X0.here hx rfl (hb hby d12_17) rfl rfl ?_
  exact kt
 obtain ⟨T4, h4, X4, e4, E4, A4, Ax4, st4⟩ := cloneH X0 hx hZ (ad := "[B") hown (H 68 rfl) (H 69 rfl) (H 73 rfl) (H 71 rfl) (H 72 rfl) (H 74 rfl) e0 (V1.arh) pE1 (g := (own_top pre3)) rfl (by rw [hml]; rfl) rfl (hb hby d12_18) (by decide) (W := 0) (by show 2 * 0 + _ ≤ _; exact Nat.le_of_eq rfl) (by decide) (cap := 6) (by decide) (by decide) (by decide)
 obtain ⟨b4, g4⟩ : ∃ z, z = h0.size := ⟨_, rfl⟩
 rw [← g4] at A4 Ax4 st4
 have ne5 : a1 ≠ b4 := Nat.ne_of_lt (Nat.lt_of_lt_of_le pE1.lt (Nat.le_of_eq g4.symm))
 have ge6 : n0 ≤ b4 := Nat.le_trans Z0 (Nat.le_of_eq g4.symm)
 have sz7 : h0.size ≤ b4 := Nat.le_trans kc0.1 (Nat.le_of_eq g4.symm)
 have zs8 : n0 ≤ h4.size := Nat.le_trans Z0 E4.1
 have kc9 : Keep h0 h4 [] := kc0.ext E4
 have V4 : Arv Z h4 b4 k1 .byte (6 : Int32) [(.int (nar .byte (c0.toInt8.toInt32))), (.int (nar .byte (c1.toInt8.toInt32))), (.int (nar .byte (c2.toInt8.toInt32))), (.int (nar .byte (c3.toInt8.toInt32))), (.int (nar .byte (c4.toInt8.toInt32))), (.int (nar .byte (c5.toInt8.toInt32)))] (.int 0) := A4
 have pre10 : own_Go p e below S0 (T4.setTop (mkF m 21 #[vR a1, vI 0, vI 6] [(.ref b4)])) := by
  intro t kt
  refine pre3 t ?_
  refine st4 _ ?_
  exact kt
 obtain ⟨T11, X11, e11, st11⟩ := castY X4 hx hZ hown (H 75 rfl) e4 (Ins.self Ax4) (g := (own_top pre10)) rfl rfl (hb hby d12_21)
 have pre12 : own_Go p e below S0 (T11.setTop (mkF m 24 #[vR a1, vI 0, vI 6] [(.ref b4)])) := by
  intro t kt
  refine pre10 t ?_
  refine st11 _ ?_
  exact kt
 obtain ⟨fs, hr, hrun, hended, hW, hsame⟩ := X11.leave (v := some (.ref b4)) (fun h => by rw [Bd.returns] at h; cases h)
 refine ⟨_, _, fin _ (pre12 _ ?_), hrun, hended, _, _, rfl, ?_, ⟨_, rfl⟩, hW, hsame.mono (by decide) (by decide)⟩
 ·jvm_step X11.here [X11.here.top, hx, (hb hby d12_24), X11.method', Bd.returns, Value.isRef, FieldType.isReference]
  first | (intro acts; rw [hr _ acts rfl rfl rfl]) | rw [hr _ _ rfl rfl rfl]
  exact Steps.refl _
 ·show Qcor6_6 Z a1 k1 c0 c1 c2 c3 c4 c5 h0 n0 _ T11.heap _
  rw [e11]
  exact ⟨b4, k1, rfl, N0, kc9, sz7, V4⟩

theorem ef_cor3_3 (m : MethodId) (x0 : Addr) : entryFrame m #[(.ref x0), (.int 0), (.int 3)] 3 = mkF m 0 #[vR x0, vI 0, vI 3] [] := by first | (simp [entryFrame, mkF, argsToLocals, Value.category]; done) | rfl
def Qcor3_3 (Z : State) (a1 : Addr) (k1 : ClassId) (c0 : Int32) (c1 : Int32) (c2 : Int32) (h0 : Heap) (n0 : Nat) (v : Option Value) (h : Heap) (L : List Loc) : Prop := ∃ b : Addr, ∃ kb : ClassId, v = (some (.ref b)) ∧ Fr n0 L ∧ Keep h0 h [] ∧ h0.size ≤ b ∧ Arv Z h b kb .byte (3 : Int32) [(.int (nar .byte (c0.toInt8.toInt32))), (.int (nar .byte (c1.toInt8.toInt32))), (.int (nar .byte (c2.toInt8.toInt32)))] (.int 0)
set_option maxRecDepth 65536 in
set_option maxHeartbeats 40000000 in
theorem rmcor3_3 (l : Launch) (Z : State) (a0 : Array Value) (hw : ∀ d ∈ tables_1, d.before a0 Z = true) (ws : List Jvm.Cond) (a1 : Addr) (k1 : ClassId) (c0 : Int32) (c1 : Int32) (c2 : Int32) (h0 : Heap) (n0 : Nat) (Z0 : n0 ≤ h0.size) (pE1 : Exa Z h0 a1 "[B") (V1 : Arv Z h0 a1 k1 .byte (3 : Int32) [(.int (nar .byte (c0.toInt8.toInt32))), (.int (nar .byte (c1.toInt8.toInt32))), (.int (nar .byte (c2.toInt8.toInt32)))] (.int 0)) :
  MetFree l own_m28 (head1 (Jvm.Cond.code own_m28 jdk_65_method_132_code 3 (some (.array .byte)) :: ws) (own_r 3 1 9 60)) (fun a U => a = #[(.ref a1), (.int 0), (.int 3)] ∧ Z.Warmed39 U.vm ∧ U.heap = h0) (fun _ _ _ _ _ => True) (fun _ U o U' => ∃ v L, o = .returned v ∧ Qcor3_3 Z a1 k1 c0 c1 c2 h0 n0 v U'.heap L ∧ FrameEnd U o U' L (own_r 3 1 9 60).cells (own_r 3 1 9 60).slots) := by
 refine MetFree.of_bodySF (plainFor_of_name pn_12) hisR ?_
 intro p e s m args below meth c s₁ Bd hml0 hP hK
 have H : ∀ (i : Nat) {d : Jvm.Cond}, tables_1[i]? = some d → d.before a0 Z = true := fun i _ h => hw _ (own_w i h)
 obtain ⟨rfl, hZ, hh⟩ := hP
 have hx := Bd.exec
 have hby := Bd.bytes
 have hml : c.maxLocals = 3 := hml0
 have hown0 := findClass_of_methodNamed Bd.named
 have hown : s.vm.findClass "java/util/Arrays" = some m.cls := hown0
 have hnm := (name_of_methodNamed Bd.named Bd.method).1
 have X0 : Stand p l e (own_r 3 1 9 60) s m #[(.ref a1), (.int 0), (.int 3)] below meth c s₁ [] 0 0 := Stand.of_body Bd
 have e0 : s₁.heap = h0 := by rw [← hh, Bd.state]; rfl
 have N0 := Fr.nil n0
 obtain ⟨S0, hS0⟩ : ∃ z, z = s₁.setTop (entryFrame m #[(.ref a1), (.int 0), (.int 3)] 3) := ⟨_, rfl⟩
 have pre0 : own_Go p e below S0 (s₁.setTop (mkF m 0 #[vR a1, vI 0, vI 3] [])) := fun t k => by rw [hS0]; exact castTop (ef_cor3_3 m a1) k
 have fin : ∀ t, Steps p.tables e below S0 t → Steps p.tables e below (s₁.setTop (entryFrame m #[(.ref a1), (.int 0), (.int 3)] 3)) t := fun t k => by rw [hS0] at k; exact k
 have kc0 : Keep h0 h0 [] := Keep.refl _ _
 have pre1 : own_Go p e below S0 (s₁.setTop (mkF m 6 #[vR a1, vI 0, vI 3] [(.ref a1), (.int 3)])) := by
  intro t kt
  refine pre0 t ?_
  refine XS.iloadN X0.here hx rfl (hb hby d12_0) rfl ?_
  refine XS.ifNo X0.here hx rfl (hb hby d12_1) rfl ((if0 _ _).trans (teq (by decide : (0 : Int32) = (0 : Int32))).2) ?_
  refine XS.iloadN X0.here hx rfl (hb hby d12_4) rfl ?_
  refine XS.aloadN X0.here hx rfl (hb hby d12_5) rfl rfl ?_
  exact kt
 obtain ⟨cl2, Ar2, -, Sz2, Ng2, -, -⟩ := id V1
 have pre3 : own_Go p e below S0 (s₁.setTop (mkF m 18 #[vR a1, vI 0, vI 3] [(.ref a1)])) := by
  intro t kt
  refine pre1 t ?_
  refine X0.arraylength hx (by rw [e0]; exact Ar2.1) (State.isArrayOf_alike hZ.alike Ar2.2.1) (g := (own_top pre1)) rfl rfl (hb hby d12_6) _ ?_
  rw [len_of Sz2 Ng2]
  show Steps p.tables e below (s₁.setTop (mkF m 7 #[vR a1, vI 0, vI 3] [(.int 3), (.int 3)])) _
  refine XS.icmpYes X0.here hx rfl (pc0 := 7) (pc' := 17) rfl (hb hby d12_7) rfl (teq (by decide : (3 : Int32) = (3 : Int32))).1 (by decide) (by decide) ?_
  refine XS.aloadN X0.here hx rfl (hb hby d12_17) rfl rfl ?_
  exact kt
 obtain ⟨T4, h4, X4, e4, E4, A4, Ax4, st4⟩ := cloneH X0 hx hZ (ad := "[B") hown (H 68 rfl) (H 69 rfl) (H 73 rfl) (H 71 rfl) (H 72 rfl) (H 74 rfl) e0 (V1.arh) pE1 (g := (own_top pre3)) rfl (by rw [hml]; rfl) rfl (hb hby d12_18) (by decide) (W := 0) (by show 2 * 0 + _ ≤ _; exact Nat.le_of_eq rfl) (by decide) (cap := 3) (by decide) (by decide) (by decide)
 obtain ⟨b4, g4⟩ : ∃ z, z = h0.size := ⟨_, rfl⟩
 rw [← g4] at A4 Ax4 st4
 have ne5 : a1 ≠ b4 := Nat.ne_of_lt (Nat.lt_of_lt_of_le pE1.lt (Nat.le_of_eq g4.symm))
 have ge6 : n0 ≤ b4 := Nat.le_trans Z0 (Nat.le_of_eq g4.symm)
 have sz7 : h0.size ≤ b4 := Nat.le_trans kc0.1 (Nat.le_of_eq g4.symm)
 have zs8 : n0 ≤ h4.size := Nat.le_trans Z0 E4.1
 have kc9 : Keep h0 h4 [] := kc0.ext E4
 have V4 : Arv Z h4 b4 k1 .byte (3 : Int32) [(.int (nar .byte (c0.toInt8.toInt32))), (.int (nar .byte (c1.toInt8.toInt32))), (.int (nar .byte (c2.toInt8.toInt32)))] (.int 0) := A4
 have pre10 : own_Go p e below S0 (T4.setTop (mkF m 21 #[vR a1, vI 0, vI 3] [(.ref b4)])) := by
  intro t kt
  refine pre3 t ?_
  refine st4 _ ?_
  exact kt
 obtain ⟨T11, X11, e11, st11⟩ := castY X4 hx hZ hown (H 75 rfl) e4 (Ins.self Ax4) (g := (own_top pre10)) rfl rfl (hb hby d12_21)
 have pre12 : own_Go p e below S0 (T11.setTop (mkF m 24 #[vR a1, vI 0, vI 3] [(.ref b4)])) := by
  intro t kt
  refine pre10 t ?_
  refine st11 _ ?_
  exact kt
 obtain ⟨fs, hr, hrun, hended, hW, hsame⟩ := X11.leave (v := some (.ref b4)) (fun h => by rw [Bd.returns] at h; cases h)
 refine ⟨_, _, fin _ (pre12 _ ?_), hrun, hended, _, _, rfl, ?_, ⟨_, rfl⟩, hW, hsame.mono (by decide) (by decide)⟩
 ·jvm_step X11.here [X11.here.top, hx, (hb hby d12_24), X11.method', Bd.returns, Value.isRef, FieldType.isReference]
  first | (intro acts; rw [hr _ acts rfl rfl rfl]) | rw [hr _ _ rfl rfl rfl]
  exact Steps.refl _
 ·show Qcor3_3 Z a1 k1 c0 c1 c2 h0 n0 _ T11.heap _
  rw [e11]
  exact ⟨b4, k1, rfl, N0, kc9, sz7, V4⟩

theorem ef_crb8_5 (m : MethodId) (x0 : Addr) : entryFrame m #[(.ref x0), (.int 0), (.int 5)] 5 = mkF m 0 #[vR x0, vI 0, vI 5, .unset, .unset] [] := by first | (simp [entryFrame, mkF, argsToLocals, Value.category]; done) | rfl
def Qcrb8_5 (Z : State) (a1 : Addr) (k1 : ClassId) (v0 : Value) (v1 : Value) (v2 : Value) (v3 : Value) (v4 : Value) (h0 : Heap) (n0 : Nat) (v : Option Value) (h : Heap) (L : List Loc) : Prop := ∃ b : Addr, ∃ kb : ClassId, v = (some (.ref b)) ∧ Fr n0 L ∧ Keep h0 h [] ∧ h0.size ≤ b ∧ Arv Z h b kb .byte (5 : Int32) [v0, v1, v2, v3, v4] (.int 0)
set_option maxRecDepth 65536 in
set_option maxHeartbeats 40000000 in
theorem rmcrb8_5 (l : Launch) (Z : State) (a0 : Array Value) (hw : ∀ d ∈ tables_1, d.before a0 Z = true) (ws : List Jvm.Cond) (a1 : Addr) (k1 : ClassId) (v0 : Value) (v1 : Value) (v2 : Value) (v3 : Value) (v4 : Value) (h0 : Heap) (n0 : Nat) (Z0 : n0 ≤ h0.size) (V1 : Arv Z h0 a1 k1 .byte (8 : Int32) [v0, v1, v2, v3, v4, (.int 0), (.int 0), (.int 0)] (.int 0)) :
  MetFree l own_m29 (head1 (Jvm.Cond.code own_m29 jdk_65_method_133_code 5 (some (.array .byte)) :: ws) (own_r 1 1 5 18)) (fun a U => a = #[(.ref a1), (.int 0), (.int 5)] ∧ Z.Warmed39 U.vm ∧ U.heap = h0) (fun _ _ _ _ _ => True) (fun _ U o U' => ∃ v L, o = .returned v ∧ Qcrb8_5 Z a1 k1 v0 v1 v2 v3 v4 h0 n0 v U'.heap L ∧ FrameEnd U o U' L (own_r 1 1 5 18).cells (own_r 1 1 5 18).slots) := by
 refine MetFree.of_bodySF (plainFor_of_name pn_29) hisR ?_
 intro p e s m args below meth c s₁ Bd hml0 hP hK
 have H : ∀ (i : Nat) {d : Jvm.Cond}, tables_1[i]? = some d → d.before a0 Z = true := fun i _ h => hw _ (own_w i h)
 obtain ⟨rfl, hZ, hh⟩ := hP
 have hx := Bd.exec
 have hby := Bd.bytes
 have hml : c.maxLocals = 5 := hml0
 have hown0 := findClass_of_methodNamed Bd.named
 have hown : s.vm.findClass "java/util/Arrays" = some m.cls := hown0
 have hnm := (name_of_methodNamed Bd.named Bd.method).1
 have X0 : Stand p l e (own_r 1 1 5 18) s m #[(.ref a1), (.int 0), (.int 5)] below meth c s₁ [] 0 0 := Stand.of_body Bd
 have e0 : s₁.heap = h0 := by rw [← hh, Bd.state]; rfl
 have N0 := Fr.nil n0
 obtain ⟨S0, hS0⟩ : ∃ z, z = s₁.setTop (entryFrame m #[(.ref a1), (.int 0), (.int 5)] 5) := ⟨_, rfl⟩
 have pre0 : own_Go p e below S0 (s₁.setTop (mkF m 0 #[vR a1, vI 0, vI 5, .unset, .unset] [])) := fun t k => by rw [hS0]; exact castTop (ef_crb8_5 m a1) k
 have fin : ∀ t, Steps p.tables e below S0 t → Steps p.tables e below (s₁.setTop (entryFrame m #[(.ref a1), (.int 0), (.int 5)] 5)) t := fun t k => by rw [hS0] at k; exact k
 have kc0 : Keep h0 h0 [] := Keep.refl _ _
 have pre1 : own_Go p e below S0 (s₁.setTop (mkF m 2 #[vR a1, vI 0, vI 5, .unset, .unset] [(.int 5), (.int 0)])) := by
  intro t kt
  refine pre0 t ?_
  refine XS.iloadN X0.here hx rfl (hb hby d29_0) rfl ?_
  refine XS.iloadN X0.here hx rfl (hb hby d29_1) rfl ?_
  exact kt
 obtain ⟨_, _, ⟨T2, L2, k2, n2⟩, -, X2, ⟨Lc2, hQ2, l2, y2, z2⟩, st2⟩ := Jvm.LawKit.callS X0 hx (y := own_m26) hown (mvT hZ (H 161 rfl)) (mvT hZ (H 162 rfl)) (mvT hZ (H 66 rfl)) (mvT hZ (H 163 rfl)) (by decide) (backOf (W := 0) (rm30 l Z a0 hw [] (0 : Int32) (5 : Int32) h0 n0 Z0 (by decide)) hZ (H 163 rfl) (H 66 rfl) (by decide) (by decide)) (g := (own_top pre1)) rfl (by rw [hml]; rfl) (argsL := [(.int 0), (.int 5)]) (rest := []) (lenOf pd_2 rfl) rfl (by show 2 * 0 + _ ≤ _; exact Nat.le_of_eq rfl) (hb hby d29_2) (fun _ _ => ⟨rfl, e0, (by decide : 0 + 0 ≤ _), (by decide : 0 + 0 ≤ _)⟩)
 dsimp only [Pt.U, Pt.locs, Pt.cells, Pt.slots] at X2 l2 y2 z2 st2 hQ2
 subst l2 y2 z2
 obtain ⟨rfl, Nq2, eq2⟩ := hQ2
 have N2 := Fr.app N0 Nq2
 have pre3 : own_Go p e below S0 (T2.setTop (mkF m 10 #[vR a1, vI 0, vI 5, vI 5, .unset] [(.int 5)])) := by
  intro t kt
  refine pre1 t ?_
  refine st2 _ ?_
  show Steps p.tables e below (T2.setTop (mkF m 5 #[vR a1, vI 0, vI 5, .unset, .unset] [])) _
  refine XS.iloadN X2.here hx rfl (hb hby d29_5) rfl ?_
  refine XS.iloadN X2.here hx rfl (hb hby d29_6) rfl ?_
  refine XS.isub X2.here hx rfl (hb hby d29_7) rfl ?_
  refine XS.istoreN X2.here hx rfl (hb hby d29_8) rfl (l' := #[vR a1, vI 0, vI 5, vI 5, .unset]) rfl ?_
  refine XS.iloadN X2.here hx rfl (hb hby d29_9) rfl ?_
  exact kt
 obtain ⟨T4, h4, k4, X4, e4, E4, A4, Ax4, st4⟩ := newPE X2 hx hZ (H 0 rfl) eq2 (g := (own_top pre3)) rfl (hb hby d29_10) rfl (by decide) (cap := 5) (by decide) (by decide) (by decide) (by decide) (ad := "[B") (by decide)
 obtain ⟨b4, g4⟩ : ∃ z, z = h0.size := ⟨_, rfl⟩
 rw [← g4] at A4 Ax4 st4
 have ne5 : a1 ≠ b4 := Nat.ne_of_lt (Nat.lt_of_lt_of_le V1.lt (Nat.le_of_eq g4.symm))
 have ge6 : n0 ≤ b4 := Nat.le_trans Z0 (Nat.le_of_eq g4.symm)
 have sz7 : h0.size ≤ b4 := Nat.le_trans kc0.1 (Nat.le_of_eq g4.symm)
 have zs8 : n0 ≤ h4.size := Nat.le_trans Z0 E4.1
 have kc9 : Keep h0 h4 [] := kc0.ext E4
 have V4 : Arv Z h4 b4 k4 .byte (5 : Int32) [(.int 0), (.int 0), (.int 0), (.int 0), (.int 0)] (.int 0) := (Arv.new A4 (by decide)).pad (pad_rep [] (.int 0) 5)
 have pre10 : own_Go p e below S0 (T4.setTop (mkF m 20 #[vR a1, vI 0, vI 5, vI 5, vR b4] [(.ref a1), (.int 0), (.ref b4), (.int 0), (.ref a1)])) := by
  intro t kt
  refine pre3 t ?_
  refine st4 _ ?_
  refine XS.astore X4.here hx rfl (hb hby d29_12) rfl rfl (l' := #[vR a1, vI 0, vI 5, vI 5, vR b4]) rfl ?_
  refine XS.aloadN X4.here hx rfl (hb hby d29_14) rfl rfl ?_
  refine XS.iloadN X4.here hx rfl (hb hby d29_15) rfl ?_
  refine XS.aload X4.here hx rfl (hb hby d29_16) rfl rfl ?_
  refine XS.iconst X4.here hx rfl (hb hby d29_18) ?_
  refine XS.aloadN X4.here hx rfl (hb hby d29_19) rfl rfl ?_
  exact kt
 have f11 : Arv Z h4 a1 k1 .byte (8 : Int32) [v0, v1, v2, v3, v4, (.int 0), (.int 0), (.int 0)] (.int 0) := (V1.ext E4)
 obtain ⟨cl12, Ar12, -, Sz12, Ng12, -, -⟩ := id f11
 have pre13 : own_Go p e below S0 (T4.setTop (mkF m 24 #[vR a1, vI 0, vI 5, vI 5, vR b4] [(.int 5), (.int 8), (.int 0), (.ref b4), (.int 0), (.ref a1)])) := by
  intro t kt
  refine pre10 t ?_
  refine X4.arraylength hx (by rw [e4]; exact Ar12.1) (State.isArrayOf_alike hZ.alike Ar12.2.1) (g := (own_top pre10)) rfl rfl (hb hby d29_20) _ ?_
  rw [len_of Sz12 Ng12]
  show Steps p.tables e below (T4.setTop (mkF m 21 #[vR a1, vI 0, vI 5, vI 5, vR b4] [(.int 8), (.int 0), (.ref b4), (.int 0), (.ref a1)])) _
  refine XS.iloadN X4.here hx rfl (hb hby d29_21) rfl ?_
  refine XS.isub X4.here hx rfl (hb hby d29_22) rfl ?_
  refine XS.iloadN X4.here hx rfl (hb hby d29_23) rfl ?_
  exact kt
 obtain ⟨_, _, ⟨T14, L14, k14, n14⟩, -, X14, ⟨Lc14, hQ14, l14, y14, z14⟩, st14⟩ := Jvm.LawKit.callS X4 hx (y := own_m12) hown (mvT hZ (H 151 rfl)) (mvT hZ (H 152 rfl)) (mvT hZ (H 144 rfl)) (mvT hZ (H 153 rfl)) (by decide) (backOf (W := 4) (rm28 l Z a0 hw [] (8 : Int32) (5 : Int32) h4 n0 zs8 ) hZ (H 153 rfl) (H 144 rfl) (by decide) (by decide)) (g := (own_top pre13)) rfl (by rw [hml]; rfl) (argsL := [(.int 8), (.int 5)]) (rest := [(.int 0), (.ref b4), (.int 0), (.ref a1)]) (lenOf pd_0 rfl) rfl (by show 2 * 0 + _ ≤ _; exact Nat.le_of_eq rfl) (hb hby d29_24) (fun _ _ => ⟨rfl, e4, (by decide : 1 + 0 ≤ _), (by decide : 5 + 0 ≤ _)⟩)
 dsimp only [Pt.U, Pt.locs, Pt.cells, Pt.slots] at X14 l14 y14 z14 st14 hQ14
 subst l14 y14 z14
 obtain ⟨rfl, Nq14, eq14⟩ := hQ14
 have N14 := Fr.app N2 Nq14
 have pre15 : own_Go p e below S0 (T14.setTop (mkF m 27 #[vR a1, vI 0, vI 5, vI 5, vR b4] [(.int (own_mn (8 : Int32) (5 : Int32))), (.int 0), (.ref b4), (.int 0), (.ref a1)])) := by
  intro t kt
  refine pre13 t ?_
  refine st14 _ ?_
  show Steps p.tables e below (T14.setTop (mkF m 27 #[vR a1, vI 0, vI 5, vI 5, vR b4] [(.int (own_mn (8 : Int32) (5 : Int32))), (.int 0), (.ref b4), (.int 0), (.ref a1)])) _
  exact kt
 have pre16 : own_Go p e below S0 (T14.setTop (mkF m 27 #[vR a1, vI 0, vI 5, vI 5, vR b4] [(.int 5), (.int 0), (.ref b4), (.int 0), (.ref a1)])) := by
  intro t kt
  refine pre15 t ?_
  rw [(by decide : (own_mn (8 : Int32) (5 : Int32)) = (5 : Int32))]
  exact kt
 obtain ⟨T17, h17, L17, X17, e17, N17, K17, V17, st17⟩ := cpA X14 hx hZ hown (H 154 rfl) (H 157 rfl) (H 155 rfl) (H 156 rfl) eq14 f11 V4 (us := [v0, v1, v2, v3, v4]) (Or.inl ⟨rfl, rfl⟩) (by decide) (by decide) (by decide) (by decide) (by decide) rfl (by decide) N14 ge6 (g := (own_top pre16)) rfl (by rw [hml]; rfl) rfl (hb hby d29_27) (by decide) (W := 0) (by show 2 * 0 + _ ≤ _; exact Nat.le_of_eq rfl) (by decide)
 have zs18 : n0 ≤ h17.size := Nat.le_trans zs8 K17.1
 have kc19 : Keep h0 h17 [] := kc9.trans K17 (allS (Or.inr sz7) all0)
 have V17q : Arv Z h17 b4 k4 .byte (5 : Int32) [v0, v1, v2, v3, v4] (.int 0) := V17
 have pre20 : own_Go p e below S0 (T17.setTop (mkF m 32 #[vR a1, vI 0, vI 5, vI 5, vR b4] [(.ref b4)])) := by
  intro t kt
  refine pre16 t ?_
  refine st17 _ ?_
  refine XS.aload X17.here hx rfl (hb hby d29_30) rfl rfl ?_
  exact kt
 obtain ⟨fs, hr, hrun, hended, hW, hsame⟩ := X17.leave (v := some (.ref b4)) (fun h => by rw [Bd.returns] at h; cases h)
 refine ⟨_, _, fin _ (pre20 _ ?_), hrun, hended, _, _, rfl, ?_, ⟨_, rfl⟩, hW, hsame.mono (by decide) (by decide)⟩
 ·jvm_step X17.here [X17.here.top, hx, (hb hby d29_32), X17.method', Bd.returns, Value.isRef, FieldType.isReference]
  first | (intro acts; rw [hr _ acts rfl rfl rfl]) | rw [hr _ _ rfl rfl rfl]
  exact Steps.refl _
 ·show Qcrb8_5 Z a1 k1 v0 v1 v2 v3 v4 h0 n0 _ T17.heap _
  rw [e17]
  exact ⟨b4, k4, rfl, N17, kc19, sz7, V17q⟩

theorem ef_cor8_5 (m : MethodId) (x0 : Addr) : entryFrame m #[(.ref x0), (.int 0), (.int 5)] 3 = mkF m 0 #[vR x0, vI 0, vI 5] [] := by first | (simp [entryFrame, mkF, argsToLocals, Value.category]; done) | rfl
def Qcor8_5 (Z : State) (a1 : Addr) (k1 : ClassId) (c0 : Int32) (c1 : Int32) (c2 : Int32) (c3 : Int32) (c4 : Int32) (h0 : Heap) (n0 : Nat) (v : Option Value) (h : Heap) (L : List Loc) : Prop := ∃ b : Addr, ∃ kb : ClassId, v = (some (.ref b)) ∧ Fr n0 L ∧ Keep h0 h [] ∧ h0.size ≤ b ∧ Arv Z h b kb .byte (5 : Int32) [(.int (nar .byte (c0.toInt8.toInt32))), (.int (nar .byte (c1.toInt8.toInt32))), (.int (nar .byte (c2.toInt8.toInt32))), (.int (nar .byte (c3.toInt8.toInt32))), (.int (nar .byte (c4.toInt8.toInt32)))] (.int 0)
set_option maxRecDepth 65536 in
set_option maxHeartbeats 40000000 in
theorem rmcor8_5 (l : Launch) (Z : State) (a0 : Array Value) (hw : ∀ d ∈ tables_1, d.before a0 Z = true) (ws : List Jvm.Cond) (a1 : Addr) (k1 : ClassId) (c0 : Int32) (c1 : Int32) (c2 : Int32) (c3 : Int32) (c4 : Int32) (h0 : Heap) (n0 : Nat) (Z0 : n0 ≤ h0.size) (pE1 : Exa Z h0 a1 "[B") (V1 : Arv Z h0 a1 k1 .byte (8 : Int32) [(.int (nar .byte (c0.toInt8.toInt32))), (.int (nar .byte (c1.toInt8.toInt32))), (.int (nar .byte (c2.toInt8.toInt32))), (.int (nar .byte (c3.toInt8.toInt32))), (.int (nar .byte (c4.toInt8.toInt32))), (.int 0), (.int 0), (.int 0)] (.int 0)) :
  MetFree l own_m28 (head1 (Jvm.Cond.code own_m28 jdk_65_method_132_code 3 (some (.array .byte)) :: ws) (own_r 3 1 9 60)) (fun a U => a = #[(.ref a1), (.int 0), (.int 5)] ∧ Z.Warmed39 U.vm ∧ U.heap = h0) (fun _ _ _ _ _ => True) (fun _ U o U' => ∃ v L, o = .returned v ∧ Qcor8_5 Z a1 k1 c0 c1 c2 c3 c4 h0 n0 v U'.heap L ∧ FrameEnd U o U' L (own_r 3 1 9 60).cells (own_r 3 1 9 60).slots) := by
 refine MetFree.of_bodySF (plainFor_of_name pn_12) hisR ?_
 intro p e s m args below meth c s₁ Bd hml0 hP hK
 have H : ∀ (i : Nat) {d : Jvm.Cond}, tables_1[i]? = some d → d.before a0 Z = true := fun i _ h => hw _ (own_w i h)
 obtain ⟨rfl, hZ, hh⟩ := hP
 have hx := Bd.exec
 have hby := Bd.bytes
 have hml : c.maxLocals = 3 := hml0
 have hown0 := findClass_of_methodNamed Bd.named
 have hown : s.vm.findClass "java/util/Arrays" = some m.cls := hown0
 have hnm := (name_of_methodNamed Bd.named Bd.method).1
 have X0 : Stand p l e (own_r 3 1 9 60) s m #[(.ref a1), (.int 0), (.int 5)] below meth c s₁ [] 0 0 := Stand.of_body Bd
 have e0 : s₁.heap = h0 := by rw [← hh, Bd.state]; rfl
 have N0 := Fr.nil n0
 obtain ⟨S0, hS0⟩ : ∃ z, z = s₁.setTop (entryFrame m #[(.ref a1), (.int 0), (.int 5)] 3) := ⟨_, rfl⟩
 have pre0 : own_Go p e below S0 (s₁.setTop (mkF m 0 #[vR a1, vI 0, vI 5] [])) := fun t k => by rw [hS0]; exact castTop (ef_cor8_5 m a1) k
 have fin : ∀ t, Steps p.tables e below S0 t → Steps p.tables e below (s₁.setTop (entryFrame m #[(.ref a1), (.int 0), (.int 5)] 3)) t := fun t k => by rw [hS0] at k; exact k
 have kc0 : Keep h0 h0 [] := Keep.refl _ _
 have pre1 : own_Go p e below S0 (s₁.setTop (mkF m 6 #[vR a1, vI 0, vI 5] [(.ref a1), (.int 5)])) := by
  intro t kt
  refine pre0 t ?_
  refine XS.iloadN X0.here hx rfl (hb hby d12_0) rfl ?_
  refine XS.ifNo X0.here hx rfl (hb hby d12_1) rfl ((if0 _ _).trans (teq (by decide : (0 : Int32) = (0 : Int32))).2) ?_
  refine XS.iloadN X0.here hx rfl (hb hby d12_4) rfl ?_
  refine XS.aloadN X0.here hx rfl (hb hby d12_5) rfl rfl ?_
  exact kt
 obtain ⟨cl2, Ar2, -, Sz2, Ng2, -, -⟩ := id V1
 have pre3 : own_Go p e below S0 (s₁.setTop (mkF m 13 #[vR a1, vI 0, vI 5] [(.int 5), (.int 0), (.ref a1)])) := by
  intro t kt
  refine pre1 t ?_
  refine X0.arraylength hx (by rw [e0]; exact Ar2.1) (State.isArrayOf_alike hZ.alike Ar2.2.1) (g := (own_top pre1)) rfl rfl (hb hby d12_6) _ ?_
  rw [len_of Sz2 Ng2]
  show Steps p.tables e below (s₁.setTop (mkF m 7 #[vR a1, vI 0, vI 5] [(.int 8), (.int 5)])) _
  refine XS.icmpNo X0.here hx rfl (hb hby d12_7) rfl (feq (by decide : ¬ ((5 : Int32) = (8 : Int32)))).1 ?_
  refine XS.aloadN X0.here hx rfl (hb hby d12_10) rfl rfl ?_
  refine XS.iloadN X0.here hx rfl (hb hby d12_11) rfl ?_
  refine XS.iloadN X0.here hx rfl (hb hby d12_12) rfl ?_
  exact kt
 obtain ⟨_, _, ⟨T4, L4, k4, n4⟩, -, X4, ⟨Lc4, hQ4, l4, y4, z4⟩, st4⟩ := Jvm.LawKit.callS X0 hx (y := own_m29) hown (mvT hZ (H 158 rfl)) (mvT hZ (H 159 rfl)) (mvT hZ (H 66 rfl)) (mvT hZ (H 160 rfl)) (by decide) (backOf (W := 0) (rmcrb8_5 l Z a0 hw [] a1 k1 (.int (nar .byte (c0.toInt8.toInt32))) (.int (nar .byte (c1.toInt8.toInt32))) (.int (nar .byte (c2.toInt8.toInt32))) (.int (nar .byte (c3.toInt8.toInt32))) (.int (nar .byte (c4.toInt8.toInt32))) h0 n0 Z0 V1) hZ (H 160 rfl) (H 66 rfl) (by decide) (by decide)) (g := (own_top pre3)) rfl (by rw [hml]; rfl) (argsL := [(.ref a1), (.int 0), (.int 5)]) (rest := []) (lenOf pd_3 rfl) rfl (by show 2 * 0 + _ ≤ _; exact Nat.le_of_eq rfl) (hb hby d12_13) (fun _ _ => ⟨rfl, e0, (by decide : 0 + 1 ≤ _), (by decide : 0 + 5 ≤ _)⟩)
 dsimp only [Pt.U, Pt.locs, Pt.cells, Pt.slots] at X4 l4 y4 z4 st4 hQ4
 subst l4 y4 z4
 obtain ⟨b5, kb6, rfl, Nq4, K4, g7, g8⟩ := hQ4
 have N4 := Fr.app N0 Nq4
 have ne9 : a1 ≠ b5 := Nat.ne_of_lt (Nat.lt_of_lt_of_le pE1.lt g7)
 have ge10 : n0 ≤ b5 := Nat.le_trans Z0 g7
 have sz11 : h0.size ≤ b5 := Nat.le_trans kc0.1 g7
 have zs12 : n0 ≤ T4.heap.size := Nat.le_trans Z0 K4.1
 have kc13 : Keep h0 T4.heap [] := kc0.trans K4 all0
 have pre14 : own_Go p e below S0 (T4.setTop (mkF m 16 #[vR a1, vI 0, vI 5] [(.ref b5)])) := by
  intro t kt
  refine pre3 t ?_
  refine st4 _ ?_
  show Steps p.tables e below (T4.setTop (mkF m 16 #[vR a1, vI 0, vI 5] [(.ref b5)])) _
  exact kt
 obtain ⟨fs, hr, hrun, hended, hW, hsame⟩ := X4.leave (v := some (.ref b5)) (fun h => by rw [Bd.returns] at h; cases h)
 refine ⟨_, _, fin _ (pre14 _ ?_), hrun, hended, _, _, rfl, ?_, ⟨_, rfl⟩, hW, hsame.mono (by decide) (by decide)⟩
 ·jvm_step X4.here [X4.here.top, hx, (hb hby d12_16), X4.method', Bd.returns, Value.isRef, FieldType.isReference]
  first | (intro acts; rw [hr _ acts rfl rfl rfl]) | rw [hr _ _ rfl rfl rfl]
  exact Steps.refl _
 ·show Qcor8_5 Z a1 k1 c0 c1 c2 c3 c4 h0 n0 _ T4.heap _
  exact ⟨b5, kb6, rfl, N4, kc13, sz11, g8⟩

theorem ef_crb8_7 (m : MethodId) (x0 : Addr) : entryFrame m #[(.ref x0), (.int 0), (.int 7)] 5 = mkF m 0 #[vR x0, vI 0, vI 7, .unset, .unset] [] := by first | (simp [entryFrame, mkF, argsToLocals, Value.category]; done) | rfl
def Qcrb8_7 (Z : State) (a1 : Addr) (k1 : ClassId) (v0 : Value) (v1 : Value) (v2 : Value) (v3 : Value) (v4 : Value) (v5 : Value) (v6 : Value) (h0 : Heap) (n0 : Nat) (v : Option Value) (h : Heap) (L : List Loc) : Prop := ∃ b : Addr, ∃ kb : ClassId, v = (some (.ref b)) ∧ Fr n0 L ∧ Keep h0 h [] ∧ h0.size ≤ b ∧ Arv Z h b kb .byte (7 : Int32) [v0, v1, v2, v3, v4, v5, v6] (.int 0)
set_option maxRecDepth 65536 in
set_option maxHeartbeats 40000000 in
theorem rmcrb8_7 (l : Launch) (Z : State) (a0 : Array Value) (hw : ∀ d ∈ tables_1, d.before a0 Z = true) (ws : List Jvm.Cond) (a1 : Addr) (k1 : ClassId) (v0 : Value) (v1 : Value) (v2 : Value) (v3 : Value) (v4 : Value) (v5 : Value) (v6 : Value) (h0 : Heap) (n0 : Nat) (Z0 : n0 ≤ h0.size) (V1 : Arv Z h0 a1 k1 .byte (8 : Int32) [v0, v1, v2, v3, v4, v5, v6, (.int 0)] (.int 0)) :
  MetFree l own_m29 (head1 (Jvm.Cond.code own_m29 jdk_65_method_133_code 5 (some (.array .byte)) :: ws) (own_r 1 1 7 18)) (fun a U => a = #[(.ref a1), (.int 0), (.int 7)] ∧ Z.Warmed39 U.vm ∧ U.heap = h0) (fun _ _ _ _ _ => True) (fun _ U o U' => ∃ v L, o = .returned v ∧ Qcrb8_7 Z a1 k1 v0 v1 v2 v3 v4 v5 v6 h0 n0 v U'.heap L ∧ FrameEnd U o U' L (own_r 1 1 7 18).cells (own_r 1 1 7 18).slots) := by
 refine MetFree.of_bodySF (plainFor_of_name pn_29) hisR ?_
 intro p e s m args below meth c s₁ Bd hml0 hP hK
 have H : ∀ (i : Nat) {d : Jvm.Cond}, tables_1[i]? = some d → d.before a0 Z = true := fun i _ h => hw _ (own_w i h)
 obtain ⟨rfl, hZ, hh⟩ := hP
 have hx := Bd.exec
 have hby := Bd.bytes
 have hml : c.maxLocals = 5 := hml0
 have hown0 := findClass_of_methodNamed Bd.named
 have hown : s.vm.findClass "java/util/Arrays" = some m.cls := hown0
 have hnm := (name_of_methodNamed Bd.named Bd.method).1
 have X0 : Stand p l e (own_r 1 1 7 18) s m #[(.ref a1), (.int 0), (.int 7)] below meth c s₁ [] 0 0 := Stand.of_body Bd
 have e0 : s₁.heap = h0 := by rw [← hh, Bd.state]; rfl
 have N0 := Fr.nil n0
 obtain ⟨S0, hS0⟩ : ∃ z, z = s₁.setTop (entryFrame m #[(.ref a1), (.int 0), (.int 7)] 5) := ⟨_, rfl⟩
 have pre0 : own_Go p e below S0 (s₁.setTop (mkF m 0 #[vR a1, vI 0, vI 7, .unset, .unset] [])) := fun t k => by rw [hS0]; exact castTop (ef_crb8_7 m a1) k
 have fin : ∀ t, Steps p.tables e below S0 t → Steps p.tables e below (s₁.setTop (entryFrame m #[(.ref a1), (.int 0), (.int 7)] 5)) t := fun t k => by rw [hS0] at k; exact k
 have kc0 : Keep h0 h0 [] := Keep.refl _ _
 have pre1 : own_Go p e below S0 (s₁.setTop (mkF m 2 #[vR a1, vI 0, vI 7, .unset, .unset] [(.int 7), (.int 0)])) := by
  intro t kt
  refine pre0 t ?_
  refine XS.iloadN X0.here hx rfl (hb hby d29_0) rfl ?_
  refine XS.iloadN X0.here hx rfl (hb hby d29_1) rfl ?_
  exact kt
 obtain ⟨_, _, ⟨T2, L2, k2, n2⟩, -, X2, ⟨Lc2, hQ2, l2, y2, z2⟩, st2⟩ := Jvm.LawKit.callS X0 hx (y := own_m26) hown (mvT hZ (H 161 rfl)) (mvT hZ (H 162 rfl)) (mvT hZ (H 66 rfl)) (mvT hZ (H 163 rfl)) (by decide) (backOf (W := 0) (rm30 l Z a0 hw [] (0 : Int32) (7 : Int32) h0 n0 Z0 (by decide)) hZ (H 163 rfl) (H 66 rfl) (by decide) (by decide)) (g := (own_top pre1)) rfl (by rw [hml]; rfl) (argsL := [(.int 0), (.int 7)]) (rest := []) (lenOf pd_2 rfl) rfl (by show 2 * 0 + _ ≤ _; exact Nat.le_of_eq rfl) (hb hby d29_2) (fun _ _ => ⟨rfl, e0, (by decide : 0 + 0 ≤ _), (by decide : 0 + 0 ≤ _)⟩)
 dsimp only [Pt.U, Pt.locs, Pt.cells, Pt.slots] at X2 l2 y2 z2 st2 hQ2
 subst l2 y2 z2
 obtain ⟨rfl, Nq2, eq2⟩ := hQ2
 have N2 := Fr.app N0 Nq2
 have pre3 : own_Go p e below S0 (T2.setTop (mkF m 10 #[vR a1, vI 0, vI 7, vI 7, .unset] [(.int 7)])) := by
  intro t kt
  refine pre1 t ?_
  refine st2 _ ?_
  show Steps p.tables e below (T2.setTop (mkF m 5 #[vR a1, vI 0, vI 7, .unset, .unset] [])) _
  refine XS.iloadN X2.here hx rfl (hb hby d29_5) rfl ?_
  refine XS.iloadN X2.here hx rfl (hb hby d29_6) rfl ?_
  refine XS.isub X2.here hx rfl (hb hby d29_7) rfl ?_
  refine XS.istoreN X2.here hx rfl (hb hby d29_8) rfl (l' := #[vR a1, vI 0, vI 7, vI 7, .unset]) rfl ?_
  refine XS.iloadN X2.here hx rfl (hb hby d29_9) rfl ?_
  exact kt
 obtain ⟨T4, h4, k4, X4, e4, E4, A4, Ax4, st4⟩ := newPE X2 hx hZ (H 0 rfl) eq2 (g := (own_top pre3)) rfl (hb hby d29_10) rfl (by decide) (cap := 7) (by decide) (by decide) (by decide) (by decide) (ad := "[B") (by decide)
 obtain ⟨b4, g4⟩ : ∃ z, z = h0.size := ⟨_, rfl⟩
 rw [← g4] at A4 Ax4 st4
 have ne5 : a1 ≠ b4 := Nat.ne_of_lt (Nat.lt_of_lt_of_le V1.lt (Nat.le_of_eq g4.symm))
 have ge6 : n0 ≤ b4 := Nat.le_trans Z0 (Nat.le_of_eq g4.symm)
 have sz7 : h0.size ≤ b4 := Nat.le_trans kc0.1 (Nat.le_of_eq g4.symm)
 have zs8 : n0 ≤ h4.size := Nat.le_trans Z0 E4.1
 have kc9 : Keep h0 h4 [] := kc0.ext E4
 have V4 : Arv Z h4 b4 k4 .byte (7 : Int32) [(.int 0), (.int 0), (.int 0), (.int 0), (.int 0), (.int 0), (.int 0)] (.int 0) := (Arv.new A4 (by decide)).pad (pad_rep [] (.int 0) 7)
 have pre10 : own_Go p e below S0 (T4.setTop (mkF m 20 #[vR a1, vI 0, vI 7, vI 7, vR b4] [(.ref a1), (.int 0), (.ref b4), (.int 0), (.ref a1)])) := by
  intro t kt
  refine pre3 t ?_
  refine st4 _ ?_
  refine XS.astore X4.here hx rfl (hb hby d29_12) rfl rfl (l' := #[vR a1, vI 0, vI 7, vI 7, vR b4]) rfl ?_
  refine XS.aloadN X4.here hx rfl (hb hby d29_14) rfl rfl ?_
  refine XS.iloadN X4.here hx rfl (hb hby d29_15) rfl ?_
  refine XS.aload X4.here hx rfl (hb hby d29_16) rfl rfl ?_
  refine XS.iconst X4.here hx rfl (hb hby d29_18) ?_
  refine XS.aloadN X4.here hx rfl (hb hby d29_19) rfl rfl ?_
  exact kt
 have f11 : Arv Z h4 a1 k1 .byte (8 : Int32) [v0, v1, v2, v3, v4, v5, v6, (.int 0)] (.int 0) := (V1.ext E4)
 obtain ⟨cl12, Ar12, -, Sz12, Ng12, -, -⟩ := id f11
 have pre13 : own_Go p e below S0 (T4.setTop (mkF m 24 #[vR a1, vI 0, vI 7, vI 7, vR b4] [(.int 7), (.int 8), (.int 0), (.ref b4), (.int 0), (.ref a1)])) := by
  intro t kt
  refine pre10 t ?_
  refine X4.arraylength hx (by rw [e4]; exact Ar12.1) (State.isArrayOf_alike hZ.alike Ar12.2.1) (g := (own_top pre10)) rfl rfl (hb hby d29_20) _ ?_
  rw [len_of Sz12 Ng12]
  show Steps p.tables e below (T4.setTop (mkF m 21 #[vR a1, vI 0, vI 7, vI 7, vR b4] [(.int 8), (.int 0), (.ref b4), (.int 0), (.ref a1)])) _
  refine XS.iloadN X4.here hx rfl (hb hby d29_21) rfl ?_
  refine XS.isub X4.here hx rfl (hb hby d29_22) rfl ?_
  refine XS.iloadN X4.here hx rfl (hb hby d29_23) rfl ?_
  exact kt
 obtain ⟨_, _, ⟨T14, L14, k14, n14⟩, -, X14, ⟨Lc14, hQ14, l14, y14, z14⟩, st14⟩ := Jvm.LawKit.callS X4 hx (y := own_m12) hown (mvT hZ (H 151 rfl)) (mvT hZ (H 152 rfl)) (mvT hZ (H 144 rfl)) (mvT hZ (H 153 rfl)) (by decide) (backOf (W := 4) (rm28 l Z a0 hw [] (8 : Int32) (7 : Int32) h4 n0 zs8 ) hZ (H 153 rfl) (H 144 rfl) (by decide) (by decide)) (g := (own_top pre13)) rfl (by rw [hml]; rfl) (argsL := [(.int 8), (.int 7)]) (rest := [(.int 0), (.ref b4), (.int 0), (.ref a1)]) (lenOf pd_0 rfl) rfl (by show 2 * 0 + _ ≤ _; exact Nat.le_of_eq rfl) (hb hby d29_24) (fun _ _ => ⟨rfl, e4, (by decide : 1 + 0 ≤ _), (by decide : 7 + 0 ≤ _)⟩)
 dsimp only [Pt.U, Pt.locs, Pt.cells, Pt.slots] at X14 l14 y14 z14 st14 hQ14
 subst l14 y14 z14
 obtain ⟨rfl, Nq14, eq14⟩ := hQ14
 have N14 := Fr.app N2 Nq14
 have pre15 : own_Go p e below S0 (T14.setTop (mkF m 27 #[vR a1, vI 0, vI 7, vI 7, vR b4] [(.int (own_mn (8 : Int32) (7 : Int32))), (.int 0), (.ref b4), (.int 0), (.ref a1)])) := by
  intro t kt
  refine pre13 t ?_
  refine st14 _ ?_
  show Steps p.tables e below (T14.setTop (mkF m 27 #[vR a1, vI 0, vI 7, vI 7, vR b4] [(.int (own_mn (8 : Int32) (7 : Int32))), (.int 0), (.ref b4), (.int 0), (.ref a1)])) _
  exact kt
 have pre16 : own_Go p e below S0 (T14.setTop (mkF m 27 #[vR a1, vI 0, vI 7, vI 7, vR b4] [(.int 7), (.int 0), (.ref b4), (.int 0), (.ref a1)])) := by
  intro t kt
  refine pre15 t ?_
  rw [(by decide : (own_mn (8 : Int32) (7 : Int32)) = (7 : Int32))]
  exact kt
 obtain ⟨T17, h17, L17, X17, e17, N17, K17, V17, st17⟩ := cpA X14 hx hZ hown (H 154 rfl) (H 157 rfl) (H 155 rfl) (H 156 rfl) eq14 f11 V4 (us := [v0, v1, v2, v3, v4, v5, v6]) (Or.inl ⟨rfl, rfl⟩) (by decide) (by decide) (by decide) (by decide) (by decide) rfl (by decide) N14 ge6 (g := (own_top pre16)) rfl (by rw [hml]; rfl) rfl (hb hby d29_27) (by decide) (W := 0) (by show 2 * 0 + _ ≤ _; exact Nat.le_of_eq rfl) (by decide)
 have zs18 : n0 ≤ h17.size := Nat.le_trans zs8 K17.1
 have kc19 : Keep h0 h17 [] := kc9.trans K17 (allS (Or.inr sz7) all0)
 have V17q : Arv Z h17 b4 k4 .byte (7 : Int32) [v0, v1, v2, v3, v4, v5, v6] (.int 0) := V17
 have pre20 : own_Go p e below S0 (T17.setTop (mkF m 32 #[vR a1, vI 0, vI 7, vI 7, vR b4] [(.ref b4)])) := by
  intro t kt
  refine pre16 t ?_
  refine st17 _ ?_
  refine XS.aload X17.here hx rfl (hb hby d29_30) rfl rfl ?_
  exact kt
 obtain ⟨fs, hr, hrun, hended, hW, hsame⟩ := X17.leave (v := some (.ref b4)) (fun h => by rw [Bd.returns] at h; cases h)
 refine ⟨_, _, fin _ (pre20 _ ?_), hrun, hended, _, _, rfl, ?_, ⟨_, rfl⟩, hW, hsame.mono (by decide) (by decide)⟩
 ·jvm_step X17.here [X17.here.top, hx, (hb hby d29_32), X17.method', Bd.returns, Value.isRef, FieldType.isReference]
  first | (intro acts; rw [hr _ acts rfl rfl rfl]) | rw [hr _ _ rfl rfl rfl]
  exact Steps.refl _
 ·show Qcrb8_7 Z a1 k1 v0 v1 v2 v3 v4 v5 v6 h0 n0 _ T17.heap _
  rw [e17]
  exact ⟨b4, k4, rfl, N17, kc19, sz7, V17q⟩

theorem ef_cor8_7 (m : MethodId) (x0 : Addr) : entryFrame m #[(.ref x0), (.int 0), (.int 7)] 3 = mkF m 0 #[vR x0, vI 0, vI 7] [] := by first | (simp [entryFrame, mkF, argsToLocals, Value.category]; done) | rfl
def Qcor8_7 (Z : State) (a1 : Addr) (k1 : ClassId) (c0 : Int32) (c1 : Int32) (c2 : Int32) (c3 : Int32) (c4 : Int32) (c5 : Int32) (c6 : Int32) (h0 : Heap) (n0 : Nat) (v : Option Value) (h : Heap) (L : List Loc) : Prop := ∃ b : Addr, ∃ kb : ClassId, v = (some (.ref b)) ∧ Fr n0 L ∧ Keep h0 h [] ∧ h0.size ≤ b ∧ Arv Z h b kb .byte (7 : Int32) [(.int (nar .byte (c0.toInt8.toInt32))), (.int (nar .byte (c1.toInt8.toInt32))), (.int (nar .byte (c2.toInt8.toInt32))), (.int (nar .byte (c3.toInt8.toInt32))), (.int (nar .byte (c4.toInt8.toInt32))), (.int (nar .byte (c5.toInt8.toInt32))), (.int (nar .byte (c6.toInt8.toInt32)))] (.int 0)
set_option maxRecDepth 65536 in
set_option maxHeartbeats 40000000 in
theorem rmcor8_7 (l : Launch) (Z : State) (a0 : Array Value) (hw : ∀ d ∈ tables_1, d.before a0 Z = true) (ws : List Jvm.Cond) (a1 : Addr) (k1 : ClassId) (c0 : Int32) (c1 : Int32) (c2 : Int32) (c3 : Int32) (c4 : Int32) (c5 : Int32) (c6 : Int32) (h0 : Heap) (n0 : Nat) (Z0 : n0 ≤ h0.size) (pE1 : Exa Z h0 a1 "[B") (V1 : Arv Z h0 a1 k1 .byte (8 : Int32) [(.int (nar .byte (c0.toInt8.toInt32))), (.int (nar .byte (c1.toInt8.toInt32))), (.int (nar .byte (c2.toInt8.toInt32))), (.int (nar .byte (c3.toInt8.toInt32))), (.int (nar .byte (c4.toInt8.toInt32))), (.int (nar .byte (c5.toInt8.toInt32))), (.int (nar .byte (c6.toInt8.toInt32))), (.int 0)] (.int 0)) :
  MetFree l own_m28 (head1 (Jvm.Cond.code own_m28 jdk_65_method_132_code 3 (some (.array .byte)) :: ws) (own_r 3 1 9 60)) (fun a U => a = #[(.ref a1), (.int 0), (.int 7)] ∧ Z.Warmed39 U.vm ∧ U.heap = h0) (fun _ _ _ _ _ => True) (fun _ U o U' => ∃ v L, o = .returned v ∧ Qcor8_7 Z a1 k1 c0 c1 c2 c3 c4 c5 c6 h0 n0 v U'.heap L ∧ FrameEnd U o U' L (own_r 3 1 9 60).cells (own_r 3 1 9 60).slots) := by
 refine MetFree.of_bodySF (plainFor_of_name pn_12) hisR ?_
 intro p e s m args below meth c s₁ Bd hml0 hP hK
 have H : ∀ (i : Nat) {d : Jvm.Cond}, tables_1[i]? = some d → d.before a0 Z = true := fun i _ h => hw _ (own_w i h)
 obtain ⟨rfl, hZ, hh⟩ := hP
 have hx := Bd.exec
 have hby := Bd.bytes
 have hml : c.maxLocals = 3 := hml0
 have hown0 := findClass_of_methodNamed Bd.named
 have hown : s.vm.findClass "java/util/Arrays" = some m.cls := hown0
 have hnm := (name_of_methodNamed Bd.named Bd.method).1
 have X0 : Stand p l e (own_r 3 1 9 60) s m #[(.ref a1), (.int 0), (.int 7)] below meth c s₁ [] 0 0 := Stand.of_body Bd
 have e0 : s₁.heap = h0 := by rw [← hh, Bd.state]; rfl
 have N0 := Fr.nil n0
 obtain ⟨S0, hS0⟩ : ∃ z, z = s₁.setTop (entryFrame m #[(.ref a1), (.int 0), (.int 7)] 3) := ⟨_, rfl⟩
 have pre0 : own_Go p e below S0 (s₁.setTop (mkF m 0 #[vR a1, vI 0, vI 7] [])) := fun t k => by rw [hS0]; exact castTop (ef_cor8_7 m a1) k
 have fin : ∀ t, Steps p.tables e below S0 t → Steps p.tables e below (s₁.setTop (entryFrame m #[(.ref a1), (.int 0), (.int 7)] 3)) t := fun t k => by rw [hS0] at k; exact k
 have kc0 : Keep h0 h0 [] := Keep.refl _ _
 have pre1 : own_Go p e below S0 (s₁.setTop (mkF m 6 #[vR a1, vI 0, vI 7] [(.ref a1), (.int 7)])) := by
  intro t kt
  refine pre0 t ?_
  refine XS.iloadN X0.here hx rfl (hb hby d12_0) rfl ?_
  refine XS.ifNo X0.here hx rfl (hb hby d12_1) rfl ((if0 _ _).trans (teq (by decide : (0 : Int32) = (0 : Int32))).2) ?_
  refine XS.iloadN X0.here hx rfl (hb hby d12_4) rfl ?_
  refine XS.aloadN X0.here hx rfl (hb hby d12_5) rfl rfl ?_
  exact kt
 obtain ⟨cl2, Ar2, -, Sz2, Ng2, -, -⟩ := id V1
 have pre3 : own_Go p e below S0 (s₁.setTop (mkF m 13 #[vR a1, vI 0, vI 7] [(.int 7), (.int 0), (.ref a1)])) := by
  intro t kt
  refine pre1 t ?_
  refine X0.arraylength hx (by rw [e0]; exact Ar2.1) (State.isArrayOf_alike hZ.alike Ar2.2.1) (g := (own_top pre1)) rfl rfl (hb hby d12_6) _ ?_
  rw [len_of Sz2 Ng2]
  show Steps p.tables e below (s₁.setTop (mkF m 7 #[vR a1, vI 0, vI 7] [(.int 8), (.int 7)])) _
  refine XS.icmpNo X0.here hx rfl (hb hby d12_7) rfl (feq (by decide : ¬ ((7 : Int32) = (8 : Int32)))).1 ?_
  refine XS.aloadN X0.here hx rfl (hb hby d12_10) rfl rfl ?_
  refine XS.iloadN X0.here hx rfl (hb hby d12_11) rfl ?_
  refine XS.iloadN X0.here hx rfl (hb hby d12_12) rfl ?_
  exact kt
 obtain ⟨_, _, ⟨T4, L4, k4, n4⟩, -, X4, ⟨Lc4, hQ4, l4, y4, z4⟩, st4⟩ := Jvm.LawKit.callS X0 hx (y := own_m29) hown (mvT hZ (H 158 rfl)) (mvT hZ (H 159 rfl)) (mvT hZ (H 66 rfl)) (mvT hZ (H 160 rfl)) (by decide) (backOf (W := 0) (rmcrb8_7 l Z a0 hw [] a1 k1 (.int (nar .byte (c0.toInt8.toInt32))) (.int (nar .byte (c1.toInt8.toInt32))) (.int (nar .byte (c2.toInt8.toInt32))) (.int (nar .byte (c3.toInt8.toInt32))) (.int (nar .byte (c4.toInt8.toInt32))) (.int (nar .byte (c5.toInt8.toInt32))) (.int (nar .byte (c6.toInt8.toInt32))) h0 n0 Z0 V1) hZ (H 160 rfl) (H 66 rfl) (by decide) (by decide)) (g := (own_top pre3)) rfl (by rw [hml]; rfl) (argsL := [(.ref a1), (.int 0), (.int 7)]) (rest := []) (lenOf pd_3 rfl) rfl (by show 2 * 0 + _ ≤ _; exact Nat.le_of_eq rfl) (hb hby d12_13) (fun _ _ => ⟨rfl, e0, (by decide : 0 + 1 ≤ _), (by decide : 0 + 7 ≤ _)⟩)
 dsimp only [Pt.U, Pt.locs, Pt.cells, Pt.slots] at X4 l4 y4 z4 st4 hQ4
 subst l4 y4 z4
 obtain ⟨b5, kb6, rfl, Nq4, K4, g7, g8⟩ := hQ4
 have N4 := Fr.app N0 Nq4
 have ne9 : a1 ≠ b5 := Nat.ne_of_lt (Nat.lt_of_lt_of_le pE1.lt g7)
 have ge10 : n0 ≤ b5 := Nat.le_trans Z0 g7
 have sz11 : h0.size ≤ b5 := Nat.le_trans kc0.1 g7
 have zs12 : n0 ≤ T4.heap.size := Nat.le_trans Z0 K4.1
 have kc13 : Keep h0 T4.heap [] := kc0.trans K4 all0
 have pre14 : own_Go p e below S0 (T4.setTop (mkF m 16 #[vR a1, vI 0, vI 7] [(.ref b5)])) := by
  intro t kt
  refine pre3 t ?_
  refine st4 _ ?_
  show Steps p.tables e below (T4.setTop (mkF m 16 #[vR a1, vI 0, vI 7] [(.ref b5)])) _
  exact kt
 obtain ⟨fs, hr, hrun, hended, hW, hsame⟩ := X4.leave (v := some (.ref b5)) (fun h => by rw [Bd.returns] at h; cases h)
 refine ⟨_, _, fin _ (pre14 _ ?_), hrun, hended, _, _, rfl, ?_, ⟨_, rfl⟩, hW, hsame.mono (by decide) (by decide)⟩
 ·jvm_step X4.here [X4.here.top, hx, (hb hby d12_16), X4.method', Bd.returns, Value.isRef, FieldType.isReference]
  first | (intro acts; rw [hr _ acts rfl rfl rfl]) | rw [hr _ _ rfl rfl rfl]
  exact Steps.refl _
 ·show Qcor8_7 Z a1 k1 c0 c1 c2 c3 c4 c5 c6 h0 n0 _ T4.heap _
  exact ⟨b5, kb6, rfl, N4, kc13, sz11, g8⟩

theorem ef_crb18_9 (m : MethodId) (x0 : Addr) : entryFrame m #[(.ref x0), (.int 0), (.int 9)] 5 = mkF m 0 #[vR x0, vI 0, vI 9, .unset, .unset] [] := by first | (simp [entryFrame, mkF, argsToLocals, Value.category]; done) | rfl
def Qcrb18_9 (Z : State) (a1 : Addr) (k1 : ClassId) (v0 : Value) (v1 : Value) (v2 : Value) (v3 : Value) (v4 : Value) (v5 : Value) (v6 : Value) (v7 : Value) (v8 : Value) (h0 : Heap) (n0 : Nat) (v : Option Value) (h : Heap) (L : List Loc) : Prop := ∃ b : Addr, ∃ kb : ClassId, v = (some (.ref b)) ∧ Fr n0 L ∧ Keep h0 h [] ∧ h0.size ≤ b ∧ Arv Z h b kb .byte (9 : Int32) [v0, v1, v2, v3, v4, v5, v6, v7, v8] (.int 0)
set_option maxRecDepth 65536 in
set_option maxHeartbeats 40000000 in
theorem rmcrb18_9 (l : Launch) (Z : State) (a0 : Array Value) (hw : ∀ d ∈ tables_1, d.before a0 Z = true) (ws : List Jvm.Cond) (a1 : Addr) (k1 : ClassId) (v0 : Value) (v1 : Value) (v2 : Value) (v3 : Value) (v4 : Value) (v5 : Value) (v6 : Value) (v7 : Value) (v8 : Value) (h0 : Heap) (n0 : Nat) (Z0 : n0 ≤ h0.size) (V1 : Arv Z h0 a1 k1 .byte (18 : Int32) [v0, v1, v2, v3, v4, v5, v6, v7, v8, (.int 0), (.int 0), (.int 0), (.int 0), (.int 0), (.int 0), (.int 0), (.int 0), (.int 0)] (.int 0)) :
  MetFree l own_m29 (head1 (Jvm.Cond.code own_m29 jdk_65_method_133_code 5 (some (.array .byte)) :: ws) (own_r 1 1 9 18)) (fun a U => a = #[(.ref a1), (.int 0), (.int 9)] ∧ Z.Warmed39 U.vm ∧ U.heap = h0) (fun _ _ _ _ _ => True) (fun _ U o U' => ∃ v L, o = .returned v ∧ Qcrb18_9 Z a1 k1 v0 v1 v2 v3 v4 v5 v6 v7 v8 h0 n0 v U'.heap L ∧ FrameEnd U o U' L (own_r 1 1 9 18).cells (own_r 1 1 9 18).slots) := by
 refine MetFree.of_bodySF (plainFor_of_name pn_29) hisR ?_
 intro p e s m args below meth c s₁ Bd hml0 hP hK
 have H : ∀ (i : Nat) {d : Jvm.Cond}, tables_1[i]? = some d → d.before a0 Z = true := fun i _ h => hw _ (own_w i h)
 obtain ⟨rfl, hZ, hh⟩ := hP
 have hx := Bd.exec
 have hby := Bd.bytes
 have hml : c.maxLocals = 5 := hml0
 have hown0 := findClass_of_methodNamed Bd.named
 have hown : s.vm.findClass "java/util/Arrays" = some m.cls := hown0
 have hnm := (name_of_methodNamed Bd.named Bd.method).1
 have X0 : Stand p l e (own_r 1 1 9 18) s m #[(.ref a1), (.int 0), (.int 9)] below meth c s₁ [] 0 0 := Stand.of_body Bd
 have e0 : s₁.heap = h0 := by rw [← hh, Bd.state]; rfl
 have N0 := Fr.nil n0
 obtain ⟨S0, hS0⟩ : ∃ z, z = s₁.setTop (entryFrame m #[(.ref a1), (.int 0), (.int 9)] 5) := ⟨_, rfl⟩
 have pre0 : own_Go p e below S0 (s₁.setTop (mkF m 0 #[vR a1, vI 0, vI 9, .unset, .unset] [])) := fun t k => by rw [hS0]; exact castTop (ef_crb18_9 m a1) k
 have fin : ∀ t, Steps p.tables e below S0 t → Steps p.tables e below (s₁.setTop (entryFrame m #[(.ref a1), (.int 0), (.int 9)] 5)) t := fun t k => by rw [hS0] at k; exact k
 have kc0 : Keep h0 h0 [] := Keep.refl _ _
 have pre1 : own_Go p e below S0 (s₁.setTop (mkF m 2 #[vR a1, vI 0, vI 9, .unset, .unset] [(.int 9), (.int 0)])) := by
  intro t kt
  refine pre0 t ?_
  refine XS.iloadN X0.here hx rfl (hb hby d29_0) rfl ?_
  refine XS.iloadN X0.here hx rfl (hb hby d29_1) rfl ?_
  exact kt
 obtain ⟨_, _, ⟨T2, L2, k2, n2⟩, -, X2, ⟨Lc2, hQ2, l2, y2, z2⟩, st2⟩ := Jvm.LawKit.callS X0 hx (y := own_m26) hown (mvT hZ (H 161 rfl)) (mvT hZ (H 162 rfl)) (mvT hZ (H 66 rfl)) (mvT hZ (H 163 rfl)) (by decide) (backOf (W := 0) (rm30 l Z a0 hw [] (0 : Int32) (9 : Int32) h0 n0 Z0 (by decide)) hZ (H 163 rfl) (H 66 rfl) (by decide) (by decide)) (g := (own_top pre1)) rfl (by rw [hml]; rfl) (argsL := [(.int 0), (.int 9)]) (rest := []) (lenOf pd_2 rfl) rfl (by show 2 * 0 + _ ≤ _; exact Nat.le_of_eq rfl) (hb hby d29_2) (fun _ _ => ⟨rfl, e0, (by decide : 0 + 0 ≤ _), (by decide : 0 + 0 ≤ _)⟩)
 dsimp only [Pt.U, Pt.locs, Pt.cells, Pt.slots] at X2 l2 y2 z2 st2 hQ2
 subst l2 y2 z2
 obtain ⟨rfl, Nq2, eq2⟩ := hQ2
 have N2 := Fr.app N0 Nq2
 have pre3 : own_Go p e below S0 (T2.setTop (mkF m 10 #[vR a1, vI 0, vI 9, vI 9, .unset] [(.int 9)])) := by
  intro t kt
  refine pre1 t ?_
  refine st2 _ ?_
  show Steps p.tables e below (T2.setTop (mkF m 5 #[vR a1, vI 0, vI 9, .unset, .unset] [])) _
  refine XS.iloadN X2.here hx rfl (hb hby d29_5) rfl ?_
  refine XS.iloadN X2.here hx rfl (hb hby d29_6) rfl ?_
  refine XS.isub X2.here hx rfl (hb hby d29_7) rfl ?_
  refine XS.istoreN X2.here hx rfl (hb hby d29_8) rfl (l' := #[vR a1, vI 0, vI 9, vI 9, .unset]) rfl ?_
  refine XS.iloadN X2.here hx rfl (hb hby d29_9) rfl ?_
  exact kt
 obtain ⟨T4, h4, k4, X4, e4, E4, A4, Ax4, st4⟩ := newPE X2 hx hZ (H 0 rfl) eq2 (g := (own_top pre3)) rfl (hb hby d29_10) rfl (by decide) (cap := 9) (by decide) (by decide) (by decide) (by decide) (ad := "[B") (by decide)
 obtain ⟨b4, g4⟩ : ∃ z, z = h0.size := ⟨_, rfl⟩
 rw [← g4] at A4 Ax4 st4
 have ne5 : a1 ≠ b4 := Nat.ne_of_lt (Nat.lt_of_lt_of_le V1.lt (Nat.le_of_eq g4.symm))
 have ge6 : n0 ≤ b4 := Nat.le_trans Z0 (Nat.le_of_eq g4.symm)
 have sz7 : h0.size ≤ b4 := Nat.le_trans kc0.1 (Nat.le_of_eq g4.symm)
 have zs8 : n0 ≤ h4.size := Nat.le_trans Z0 E4.1
 have kc9 : Keep h0 h4 [] := kc0.ext E4
 have V4 : Arv Z h4 b4 k4 .byte (9 : Int32) [(.int 0), (.int 0), (.int 0), (.int 0), (.int 0), (.int 0), (.int 0), (.int 0), (.int 0)] (.int 0) := (Arv.new A4 (by decide)).pad (pad_rep [] (.int 0) 9)
 have pre10 : own_Go p e below S0 (T4.setTop (mkF m 20 #[vR a1, vI 0, vI 9, vI 9, vR b4] [(.ref a1), (.int 0), (.ref b4), (.int 0), (.ref a1)])) := by
  intro t kt
  refine pre3 t ?_
  refine st4 _ ?_
  refine XS.astore X4.here hx rfl (hb hby d29_12) rfl rfl (l' := #[vR a1, vI 0, vI 9, vI 9, vR b4]) rfl ?_
  refine XS.aloadN X4.here hx rfl (hb hby d29_14) rfl rfl ?_
  refine XS.iloadN X4.here hx rfl (hb hby d29_15) rfl ?_
  refine XS.aload X4.here hx rfl (hb hby d29_16) rfl rfl ?_
  refine XS.iconst X4.here hx rfl (hb hby d29_18) ?_
  refine XS.aloadN X4.here hx rfl (hb hby d29_19) rfl rfl ?_
  exact kt
 have f11 : Arv Z h4 a1 k1 .byte (18 : Int32) [v0, v1, v2, v3, v4, v5, v6, v7, v8, (.int 0), (.int 0), (.int 0), (.int 0), (.int 0), (.int 0), (.int 0), (.int 0), (.int 0)] (.int 0) := (V1.ext E4)
 obtain ⟨cl12, Ar12, -, Sz12, Ng12, -, -⟩ := id f11
 have pre13 : own_Go p e below S0 (T4.setTop (mkF m 24 #[vR a1, vI 0, vI 9, vI 9, vR b4] [(.int 9), (.int 18), (.int 0), (.ref b4), (.int 0), (.ref a1)])) := by
  intro t kt
  refine pre10 t ?_
  refine X4.arraylength hx (by rw [e4]; exact Ar12.1) (State.isArrayOf_alike hZ.alike Ar12.2.1) (g := (own_top pre10)) rfl rfl (hb hby d29_20) _ ?_
  rw [len_of Sz12 Ng12]
  show Steps p.tables e below (T4.setTop (mkF m 21 #[vR a1, vI 0, vI 9, vI 9, vR b4] [(.int 18), (.int 0), (.ref b4), (.int 0), (.ref a1)])) _
  refine XS.iloadN X4.here hx rfl (hb hby d29_21) rfl ?_
  refine XS.isub X4.here hx rfl (hb hby d29_22) rfl ?_
  refine XS.iloadN X4.here hx rfl (hb hby d29_23) rfl ?_
  exact kt
 obtain ⟨_, _, ⟨T14, L14, k14, n14⟩, -, X14, ⟨Lc14, hQ14, l14, y14, z14⟩, st14⟩ := Jvm.LawKit.callS X4 hx (y := own_m12) hown (mvT hZ (H 151 rfl)) (mvT hZ (H 152 rfl)) (mvT hZ (H 144 rfl)) (mvT hZ (H 153 rfl)) (by decide) (backOf (W := 4) (rm28 l Z a0 hw [] (18 : Int32) (9 : Int32) h4 n0 zs8 ) hZ (H 153 rfl) (H 144 rfl) (by decide) (by decide)) (g := (own_top pre13)) rfl (by rw [hml]; rfl) (argsL := [(.int 18), (.int 9)]) (rest := [(.int 0), (.ref b4), (.int 0), (.ref a1)]) (lenOf pd_0 rfl) rfl (by show 2 * 0 + _ ≤ _; exact Nat.le_of_eq rfl) (hb hby d29_24) (fun _ _ => ⟨rfl, e4, (by decide : 1 + 0 ≤ _), (by decide : 9 + 0 ≤ _)⟩)
 dsimp only [Pt.U, Pt.locs, Pt.cells, Pt.slots] at X14 l14 y14 z14 st14 hQ14
 subst l14 y14 z14
 obtain ⟨rfl, Nq14, eq14⟩ := hQ14
 have N14 := Fr.app N2 Nq14
 have pre15 : own_Go p e below S0 (T14.setTop (mkF m 27 #[vR a1, vI 0, vI 9, vI 9, vR b4] [(.int (own_mn (18 : Int32) (9 : Int32))), (.int 0), (.ref b4), (.int 0), (.ref a1)])) := by
  intro t kt
  refine pre13 t ?_
  refine st14 _ ?_
  show Steps p.tables e below (T14.setTop (mkF m 27 #[vR a1, vI 0, vI 9, vI 9, vR b4] [(.int (own_mn (18 : Int32) (9 : Int32))), (.int 0), (.ref b4), (.int 0), (.ref a1)])) _
  exact kt
 have pre16 : own_Go p e below S0 (T14.setTop (mkF m 27 #[vR a1, vI 0, vI 9, vI 9, vR b4] [(.int 9), (.int 0), (.ref b4), (.int 0), (.ref a1)])) := by
  intro t kt
  refine pre15 t ?_
  rw [(by decide : (own_mn (18 : Int32) (9 : Int32)) = (9 : Int32))]
  exact kt
 obtain ⟨T17, h17, L17, X17, e17, N17, K17, V17, st17⟩ := cpA X14 hx hZ hown (H 154 rfl) (H 157 rfl) (H 155 rfl) (H 156 rfl) eq14 f11 V4 (us := [v0, v1, v2, v3, v4, v5, v6, v7, v8]) (Or.inl ⟨rfl, rfl⟩) (by decide) (by decide) (by decide) (by decide) (by decide) rfl (by decide) N14 ge6 (g := (own_top pre16)) rfl (by rw [hml]; rfl) rfl (hb hby d29_27) (by decide) (W := 0) (by show 2 * 0 + _ ≤ _; exact Nat.le_of_eq rfl) (by decide)
 have zs18 : n0 ≤ h17.size := Nat.le_trans zs8 K17.1
 have kc19 : Keep h0 h17 [] := kc9.trans K17 (allS (Or.inr sz7) all0)
 have V17q : Arv Z h17 b4 k4 .byte (9 : Int32) [v0, v1, v2, v3, v4, v5, v6, v7, v8] (.int 0) := V17
 have pre20 : own_Go p e below S0 (T17.setTop (mkF m 32 #[vR a1, vI 0, vI 9, vI 9, vR b4] [(.ref b4)])) := by
  intro t kt
  refine pre16 t ?_
  refine st17 _ ?_
  refine XS.aload X17.here hx rfl (hb hby d29_30) rfl rfl ?_
  exact kt
 obtain ⟨fs, hr, hrun, hended, hW, hsame⟩ := X17.leave (v := some (.ref b4)) (fun h => by rw [Bd.returns] at h; cases h)
 refine ⟨_, _, fin _ (pre20 _ ?_), hrun, hended, _, _, rfl, ?_, ⟨_, rfl⟩, hW, hsame.mono (by decide) (by decide)⟩
 ·jvm_step X17.here [X17.here.top, hx, (hb hby d29_32), X17.method', Bd.returns, Value.isRef, FieldType.isReference]
  first | (intro acts; rw [hr _ acts rfl rfl rfl]) | rw [hr _ _ rfl rfl rfl]
  exact Steps.refl _
 ·show Qcrb18_9 Z a1 k1 v0 v1 v2 v3 v4 v5 v6 v7 v8 h0 n0 _ T17.heap _
  rw [e17]
  exact ⟨b4, k4, rfl, N17, kc19, sz7, V17q⟩

theorem ef_cor18_9 (m : MethodId) (x0 : Addr) : entryFrame m #[(.ref x0), (.int 0), (.int 9)] 3 = mkF m 0 #[vR x0, vI 0, vI 9] [] := by first | (simp [entryFrame, mkF, argsToLocals, Value.category]; done) | rfl
def Qcor18_9 (Z : State) (a1 : Addr) (k1 : ClassId) (c0 : Int32) (c1 : Int32) (c2 : Int32) (c3 : Int32) (c4 : Int32) (c5 : Int32) (c6 : Int32) (c7 : Int32) (c8 : Int32) (h0 : Heap) (n0 : Nat) (v : Option Value) (h : Heap) (L : List Loc) : Prop := ∃ b : Addr, ∃ kb : ClassId, v = (some (.ref b)) ∧ Fr n0 L ∧ Keep h0 h [] ∧ h0.size ≤ b ∧ Arv Z h b kb .byte (9 : Int32) [(.int (nar .byte (c0.toInt8.toInt32))), (.int (nar .byte (c1.toInt8.toInt32))), (.int (nar .byte (c2.toInt8.toInt32))), (.int (nar .byte (c3.toInt8.toInt32))), (.int (nar .byte (c4.toInt8.toInt32))), (.int (nar .byte (c5.toInt8.toInt32))), (.int (nar .byte (c6.toInt8.toInt32))), (.int (nar .byte (c7.toInt8.toInt32))), (.int (nar .byte (c8.toInt8.toInt32)))] (.int 0)
set_option maxRecDepth 65536 in
set_option maxHeartbeats 40000000 in
theorem rmcor18_9 (l : Launch) (Z : State) (a0 : Array Value) (hw : ∀ d ∈ tables_1, d.before a0 Z = true) (ws : List Jvm.Cond) (a1 : Addr) (k1 : ClassId) (c0 : Int32) (c1 : Int32) (c2 : Int32) (c3 : Int32) (c4 : Int32) (c5 : Int32) (c6 : Int32) (c7 : Int32) (c8 : Int32) (h0 : Heap) (n0 : Nat) (Z0 : n0 ≤ h0.size) (pE1 : Exa Z h0 a1 "[B") (V1 : Arv Z h0 a1 k1 .byte (18 : Int32) [(.int (nar .byte (c0.toInt8.toInt32))), (.int (nar .byte (c1.toInt8.toInt32))), (.int (nar .byte (c2.toInt8.toInt32))), (.int (nar .byte (c3.toInt8.toInt32))), (.int (nar .byte (c4.toInt8.toInt32))), (.int (nar .byte (c5.toInt8.toInt32))), (.int (nar .byte (c6.toInt8.toInt32))), (.int (nar .byte (c7.toInt8.toInt32))), (.int (nar .byte (c8.toInt8.toInt32))), (.int 0), (.int 0), (.int 0), (.int 0), (.int 0), (.int 0), (.int 0), (.int 0), (.int 0)] (.int 0)) :
  MetFree l own_m28 (head1 (Jvm.Cond.code own_m28 jdk_65_method_132_code 3 (some (.array .byte)) :: ws) (own_r 3 1 9 60)) (fun a U => a = #[(.ref a1), (.int 0), (.int 9)] ∧ Z.Warmed39 U.vm ∧ U.heap = h0) (fun _ _ _ _ _ => True) (fun _ U o U' => ∃ v L, o = .returned v ∧ Qcor18_9 Z a1 k1 c0 c1 c2 c3 c4 c5 c6 c7 c8 h0 n0 v U'.heap L ∧ FrameEnd U o U' L (own_r 3 1 9 60).cells (own_r 3 1 9 60).slots) := by
 refine MetFree.of_bodySF (plainFor_of_name pn_12) hisR ?_
 intro p e s m args below meth c s₁ Bd hml0 hP hK
 have H : ∀ (i : Nat) {d : Jvm.Cond}, tables_1[i]? = some d → d.before a0 Z = true := fun i _ h => hw _ (own_w i h)
 obtain ⟨rfl, hZ, hh⟩ := hP
 have hx := Bd.exec
 have hby := Bd.bytes
 have hml : c.maxLocals = 3 := hml0
 have hown0 := findClass_of_methodNamed Bd.named
 have hown : s.vm.findClass "java/util/Arrays" = some m.cls := hown0
 have hnm := (name_of_methodNamed Bd.named Bd.method).1
 have X0 : Stand p l e (own_r 3 1 9 60) s m #[(.ref a1), (.int 0), (.int 9)] below meth c s₁ [] 0 0 := Stand.of_body Bd
 have e0 : s₁.heap = h0 := by rw [← hh, Bd.state]; rfl
 have N0 := Fr.nil n0
 obtain ⟨S0, hS0⟩ : ∃ z, z = s₁.setTop (entryFrame m #[(.ref a1), (.int 0), (.int 9)] 3) := ⟨_, rfl⟩
 have pre0 : own_Go p e below S0 (s₁.setTop (mkF m 0 #[vR a1, vI 0, vI 9] [])) := fun t k => by rw [hS0]; exact castTop (ef_cor18_9 m a1) k
 have fin : ∀ t, Steps p.tables e below S0 t → Steps p.tables e below (s₁.setTop (entryFrame m #[(.ref a1), (.int 0), (.int 9)] 3)) t := fun t k => by rw [hS0] at k; exact k
 have kc0 : Keep h0 h0 [] := Keep.refl _ _
 have pre1 : own_Go p e below S0 (s₁.setTop (mkF m 6 #[vR a1, vI 0, vI 9] [(.ref a1), (.int 9)])) := by
  intro t kt
  refine pre0 t ?_
  refine XS.iloadN X0.here hx rfl (hb hby d12_0) rfl ?_
  refine XS.ifNo X0.here hx rfl (hb hby d12_1) rfl ((if0 _ _).trans (teq (by decide : (0 : Int32) = (0 : Int32))).2) ?_
  refine XS.iloadN X0.here hx rfl (hb hby d12_4) rfl ?_
  refine XS.aloadN X0.here hx rfl (hb hby d12_5) rfl rfl ?_
  exact kt
 obtain ⟨cl2, Ar2, -, Sz2, Ng2, -, -⟩ := id V1
 have pre3 : own_Go p e below S0 (s₁.setTop (mkF m 13 #[vR a1, vI 0, vI 9] [(.int 9), (.int 0), (.ref a1)])) := by
  intro t kt
  refine pre1 t ?_
  refine X0.arraylength hx (by rw [e0]; exact Ar2.1) (State.isArrayOf_alike hZ.alike Ar2.2.1) (g := (own_top pre1)) rfl rfl (hb hby d12_6) _ ?_
  rw [len_of Sz2 Ng2]
  show Steps p.tables e below (s₁.setTop (mkF m 7 #[vR a1, vI 0, vI 9] [(.int 18), (.int 9)])) _
  refine XS.icmpNo X0.here hx rfl (hb hby d12_7) rfl (feq (by decide : ¬ ((9 : Int32) = (18 : Int32)))).1 ?_
  refine XS.aloadN X0.here hx rfl (hb hby d12_10) rfl rfl ?_
  refine XS.iloadN X0.here hx rfl (hb hby d12_11) rfl ?_
  refine XS.iloadN X0.here hx rfl (hb hby d12_12) rfl ?_
  exact kt
 obtain ⟨_, _, ⟨T4, L4, k4, n4⟩, -, X4, ⟨Lc4, hQ4, l4, y4, z4⟩, st4⟩ := Jvm.LawKit.callS X0 hx (y := own_m29) hown (mvT hZ (H 158 rfl)) (mvT hZ (H 159 rfl)) (mvT hZ (H 66 rfl)) (mvT hZ (H 160 rfl)) (by decide) (backOf (W := 0) (rmcrb18_9 l Z a0 hw [] a1 k1 (.int (nar .byte (c0.toInt8.toInt32))) (.int (nar .byte (c1.toInt8.toInt32))) (.int (nar .byte (c2.toInt8.toInt32))) (.int (nar .byte (c3.toInt8.toInt32))) (.int (nar .byte (c4.toInt8.toInt32))) (.int (nar .byte (c5.toInt8.toInt32))) (.int (nar .byte (c6.toInt8.toInt32))) (.int (nar .byte (c7.toInt8.toInt32))) (.int (nar .byte (c8.toInt8.toInt32))) h0 n0 Z0 V1) hZ (H 160 rfl) (H 66 rfl) (by decide) (by decide)) (g := (own_top pre3)) rfl (by rw [hml]; rfl) (argsL := [(.ref a1), (.int 0), (.int 9)]) (rest := []) (lenOf pd_3 rfl) rfl (by show 2 * 0 + _ ≤ _; exact Nat.le_of_eq rfl) (hb hby d12_13) (fun _ _ => ⟨rfl, e0, (by decide : 0 + 1 ≤ _), (by decide : 0 + 9 ≤ _)⟩)
 dsimp only [Pt.U, Pt.locs, Pt.cells, Pt.slots] at X4 l4 y4 z4 st4 hQ4
 subst l4 y4 z4
 obtain ⟨b5, kb6, rfl, Nq4, K4, g7, g8⟩ := hQ4
 have N4 := Fr.app N0 Nq4
 have ne9 : a1 ≠ b5 := Nat.ne_of_lt (Nat.lt_of_lt_of_le pE1.lt g7)
 have ge10 : n0 ≤ b5 := Nat.le_trans Z0 g7
 have sz11 : h0.size ≤ b5 := Nat.le_trans kc0.1 g7
 have zs12 : n0 ≤ T4.heap.size := Nat.le_trans Z0 K4.1
 have kc13 : Keep h0 T4.heap [] := kc0.trans K4 all0
 have pre14 : own_Go p e below S0 (T4.setTop (mkF m 16 #[vR a1, vI 0, vI 9] [(.ref b5)])) := by
  intro t kt
  refine pre3 t ?_
  refine st4 _ ?_
  show Steps p.tables e below (T4.setTop (mkF m 16 #[vR a1, vI 0, vI 9] [(.ref b5)])) _
  exact kt
 obtain ⟨fs, hr, hrun, hended, hW, hsame⟩ := X4.leave (v := some (.ref b5)) (fun h => by rw [Bd.returns] at h; cases h)
 refine ⟨_, _, fin _ (pre14 _ ?_), hrun, hended, _, _, rfl, ?_, ⟨_, rfl⟩, hW, hsame.mono (by decide) (by decide)⟩
 ·jvm_step X4.here [X4.here.top, hx, (hb hby d12_16), X4.method', Bd.returns, Value.isRef, FieldType.isReference]
  first | (intro acts; rw [hr _ acts rfl rfl rfl]) | rw [hr _ _ rfl rfl rfl]
  exact Steps.refl _
 ·show Qcor18_9 Z a1 k1 c0 c1 c2 c3 c4 c5 c6 c7 c8 h0 n0 _ T4.heap _
  exact ⟨b5, kb6, rfl, N4, kc13, sz11, g8⟩

def own_Comb (z1 : Int32) (vs : List Value) (cs : List Int32) : Prop := (z1 = 0 ∧ vs = [] ∧ cs = []) ∨ (∃ c0, z1 = 1 ∧ vs = [(.int (nar .byte (c0.toInt8.toInt32)))] ∧ cs = [c0]) ∨ (∃ c0 c1 c2, z1 = 4 ∧ vs = [(.int (nar .byte (c0.toInt8.toInt32))), (.int (nar .byte (c1.toInt8.toInt32))), (.int (nar .byte (c2.toInt8.toInt32))), (.int 0)] ∧ cs = [c0, c1, c2]) ∨ (∃ c0 c1, z1 = 2 ∧ vs = [(.int (nar .byte (c0.toInt8.toInt32))), (.int (nar .byte (c1.toInt8.toInt32)))] ∧ cs = [c0, c1]) ∨ (∃ c0 c1 c2 c3, z1 = 6 ∧ vs = [(.int (nar .byte (c0.toInt8.toInt32))), (.int (nar .byte (c1.toInt8.toInt32))), (.int (nar .byte (c2.toInt8.toInt32))), (.int (nar .byte (c3.toInt8.toInt32))), (.int 0), (.int 0)] ∧ cs = [c0, c1, c2, c3]) ∨ (∃ c0 c1 c2 c3 c4 c5, z1 = 6 ∧ vs = [(.int (nar .byte (c0.toInt8.toInt32))), (.int (nar .byte (c1.toInt8.toInt32))), (.int (nar .byte (c2.toInt8.toInt32))), (.int (nar .byte (c3.toInt8.toInt32))), (.int (nar .byte (c4.toInt8.toInt32))), (.int (nar .byte (c5.toInt8.toInt32)))] ∧ cs = [c0, c1, c2, c3, c4, c5]) ∨ (∃ c0 c1 c2, z1 = 3 ∧ vs = [(.int (nar .byte (c0.toInt8.toInt32))), (.int (nar .byte (c1.toInt8.toInt32))), (.int (nar .byte (c2.toInt8.toInt32)))] ∧ cs = [c0, c1, c2]) ∨ (∃ c0 c1 c2 c3 c4, z1 = 8 ∧ vs = [(.int (nar .byte (c0.toInt8.toInt32))), (.int (nar .byte (c1.toInt8.toInt32))), (.int (nar .byte (c2.toInt8.toInt32))), (.int (nar .byte (c3.toInt8.toInt32))), (.int (nar .byte (c4.toInt8.toInt32))), (.int 0), (.int 0), (.int 0)] ∧ cs = [c0, c1, c2, c3, c4]) ∨ (∃ c0 c1 c2 c3 c4 c5 c6, z1 = 8 ∧ vs = [(.int (nar .byte (c0.toInt8.toInt32))), (.int (nar .byte (c1.toInt8.toInt32))), (.int (nar .byte (c2.toInt8.toInt32))), (.int (nar .byte (c3.toInt8.toInt32))), (.int (nar .byte (c4.toInt8.toInt32))), (.int (nar .byte (c5.toInt8.toInt32))), (.int (nar .byte (c6.toInt8.toInt32))), (.int 0)] ∧ cs = [c0, c1, c2, c3, c4, c5, c6]) ∨ (∃ c0 c1 c2 c3 c4 c5 c6 c7 c8, z1 = 18 ∧ vs = [(.int (nar .byte (c0.toInt8.toInt32))), (.int (nar .byte (c1.toInt8.toInt32))), (.int (nar .byte (c2.toInt8.toInt32))), (.int (nar .byte (c3.toInt8.toInt32))), (.int (nar .byte (c4.toInt8.toInt32))), (.int (nar .byte (c5.toInt8.toInt32))), (.int (nar .byte (c6.toInt8.toInt32))), (.int (nar .byte (c7.toInt8.toInt32))), (.int (nar .byte (c8.toInt8.toInt32))), (.int 0), (.int 0), (.int 0), (.int 0), (.int 0), (.int 0), (.int 0), (.int 0), (.int 0)] ∧ cs = [c0, c1, c2, c3, c4, c5, c6, c7, c8])

def QcorG (Z : State) (a1 : Addr) (k1 : ClassId) (z1 : Int32) (vs : List Value) (cs : List Int32) (h0 : Heap) (n0 : Nat) (v : Option Value) (h : Heap) (L : List Loc) : Prop := ∃ b : Addr, ∃ kb : ClassId, v = (some (.ref b)) ∧ Fr n0 L ∧ Keep h0 h [] ∧ h0.size ≤ b ∧ Arv Z h b kb .byte (own_len cs) (cs.map own_lb) (.int 0)
theorem rmcorG (l : Launch) (Z : State) (a0 : Array Value) (hw : ∀ d ∈ tables_1, d.before a0 Z = true) (ws : List Jvm.Cond) (a1 : Addr) (k1 : ClassId) (z1 : Int32) (vs : List Value) (cs : List Int32) (h0 : Heap) (n0 : Nat) (Z0 : n0 ≤ h0.size) (pE1 : Exa Z h0 a1 "[B") (V1 : Arv Z h0 a1 k1 .byte z1 vs (.int 0)) (hD : own_Comb z1 vs cs) :
  MetFree l own_m28 (head1 (Jvm.Cond.code own_m28 jdk_65_method_132_code 3 (some (.array .byte)) :: ws) (own_r 3 1 9 60)) (fun a U => a = #[(.ref a1), (.int 0), (.int (own_len cs))] ∧ Z.Warmed39 U.vm ∧ U.heap = h0) (fun _ _ _ _ _ => True) (fun _ U o U' => ∃ v L, o = .returned v ∧ QcorG Z a1 k1 z1 vs cs h0 n0 v U'.heap L ∧ FrameEnd U o U' L (own_r 3 1 9 60).cells (own_r 3 1 9 60).slots) := by
 rcases hD with ⟨rfl, rfl, rfl⟩ | ⟨c0, rfl, rfl, rfl⟩ | ⟨c0, c1, c2, rfl, rfl, rfl⟩ | ⟨c0, c1, rfl, rfl, rfl⟩ | ⟨c0, c1, c2, c3, rfl, rfl, rfl⟩ | ⟨c0, c1, c2, c3, c4, c5, rfl, rfl, rfl⟩ | ⟨c0, c1, c2, rfl, rfl, rfl⟩ | ⟨c0, c1, c2, c3, c4, rfl, rfl, rfl⟩ | ⟨c0, c1, c2, c3, c4, c5, c6, rfl, rfl, rfl⟩ | ⟨c0, c1, c2, c3, c4, c5, c6, c7, c8, rfl, rfl, rfl⟩
 ·exact rmcor0_0 l Z a0 hw ws a1 k1 h0 n0 Z0 pE1 V1
 ·exact rmcor1_1 l Z a0 hw ws a1 k1 c0 h0 n0 Z0 pE1 V1
 ·exact rmcor4_3 l Z a0 hw ws a1 k1 c0 c1 c2 h0 n0 Z0 pE1 V1
 ·exact rmcor2_2 l Z a0 hw ws a1 k1 c0 c1 h0 n0 Z0 pE1 V1
 ·exact rmcor6_4 l Z a0 hw ws a1 k1 c0 c1 c2 c3 h0 n0 Z0 pE1 V1
 ·exact rmcor6_6 l Z a0 hw ws a1 k1 c0 c1 c2 c3 c4 c5 h0 n0 Z0 pE1 V1
 ·exact rmcor3_3 l Z a0 hw ws a1 k1 c0 c1 c2 h0 n0 Z0 pE1 V1
 ·exact rmcor8_5 l Z a0 hw ws a1 k1 c0 c1 c2 c3 c4 h0 n0 Z0 pE1 V1
 ·exact rmcor8_7 l Z a0 hw ws a1 k1 c0 c1 c2 c3 c4 c5 c6 h0 n0 Z0 pE1 V1
 ·exact rmcor18_9 l Z a0 hw ws a1 k1 c0 c1 c2 c3 c4 c5 c6 c7 c8 h0 n0 Z0 pE1 V1

theorem d3_0 : decode jdk_68_method_2_code 0 = .ok (.aload_n 0, 1) := by decide +kernel
theorem d3_1 : decode jdk_68_method_2_code 1 = .ok (.invokespecial 3, 3) := by decide +kernel
theorem d3_4 : decode jdk_68_method_2_code 4 = .ok (.getstatic 18, 3) := by decide +kernel
theorem d3_7 : decode jdk_68_method_2_code 7 = .ok (.ifCond .eq 18, 3) := by decide +kernel
theorem d3_10 : decode jdk_68_method_2_code 10 = .ok (.aload_n 0, 1) := by decide +kernel
theorem d3_11 : decode jdk_68_method_2_code 11 = .ok (.iload_n 1, 1) := by decide +kernel
theorem d3_12 : decode jdk_68_method_2_code 12 = .ok (.newarray .byte, 2) := by decide +kernel
theorem d3_14 : decode jdk_68_method_2_code 14 = .ok (.putfield 15, 3) := by decide +kernel
theorem d3_17 : decode jdk_68_method_2_code 17 = .ok (.aload_n 0, 1) := by decide +kernel
theorem d3_18 : decode jdk_68_method_2_code 18 = .ok (.iconst 0, 1) := by decide +kernel
theorem d3_19 : decode jdk_68_method_2_code 19 = .ok (.putfield 22, 3) := by decide +kernel
theorem d3_22 : decode jdk_68_method_2_code 22 = .ok (.goto 16, 3) := by decide +kernel
theorem d3_38 : decode jdk_68_method_2_code 38 = .ok (.return_, 1) := by decide +kernel
theorem pn_3 : plainName "java/lang/AbstractStringBuilder" = true := by first | (simp [plainName, overriddenIn]; done) | decide +kernel
theorem ef_ai0 (m : MethodId) (x0 : Addr) : entryFrame m #[(.ref x0), (.int 0)] 2 = mkF m 0 #[vR x0, vI 0] [] := by first | (simp [entryFrame, mkF, argsToLocals, Value.category]; done) | rfl
def Qai0 (Z : State) (a1 : Addr) (wC : Int32) (h0 : Heap) (n0 : Nat) (v : Option Value) (h : Heap) (L : List Loc) : Prop := ∃ b : Addr, ∃ kb : ClassId, v = none ∧ Fr n0 L ∧ Keep h0 h [a1] ∧ h0.size ≤ b ∧ Exa Z h b "[B" ∧ Arv Z h b kb .byte (0 : Int32) [] (.int 0) ∧ Exa Z h a1 "java/lang/StringBuilder" ∧ Fld Z h a1 "java/lang/AbstractStringBuilder" "value" "[B" (.ref b) ∧ Fld Z h a1 "java/lang/AbstractStringBuilder" "coder" "B" (.int 0) ∧ Fld Z h a1 "java/lang/AbstractStringBuilder" "count" "I" (.int 0)
set_option maxRecDepth 65536 in
set_option maxHeartbeats 40000000 in
theorem rmai0 (l : Launch) (Z : State) (a0 : Array Value) (hw : ∀ d ∈ tables_1, d.before a0 Z = true) (ws : List Jvm.Cond) (a1 : Addr) (wC : Int32) (h0 : Heap) (n0 : Nat) (Z0 : n0 ≤ h0.size) (O0 : Old Z n0 h0) (qC : (own_SC Z wC)) (pE1 : Exa Z h0 a1 "java/lang/StringBuilder") (pF1 : Fld Z h0 a1 "java/lang/AbstractStringBuilder" "value" "[B" .null) (pF2 : Fld Z h0 a1 "java/lang/AbstractStringBuilder" "coder" "B" (.int 0)) (pF3 : Fld Z h0 a1 "java/lang/AbstractStringBuilder" "count" "I" (.int 0)) (pg1 : n0 ≤ a1) :
  MetFree l own_m4 (head1 (Jvm.Cond.code own_m4 jdk_68_method_2_code 2 none :: ws) (own_r 1 1 0 12)) (fun a U => a = #[(.ref a1), (.int 0)] ∧ Z.Warmed39 U.vm ∧ U.heap = h0) (fun _ _ _ _ _ => True) (fun _ U o U' => ∃ v L, o = .returned v ∧ Qai0 Z a1 wC h0 n0 v U'.heap L ∧ FrameEnd U o U' L (own_r 1 1 0 12).cells (own_r 1 1 0 12).slots) := by
 refine MetFree.of_bodySF (plainFor_of_name pn_3) hisR ?_
 intro p e s m args below meth c s₁ Bd hml0 hP hK
 have H : ∀ (i : Nat) {d : Jvm.Cond}, tables_1[i]? = some d → d.before a0 Z = true := fun i _ h => hw _ (own_w i h)
 obtain ⟨rfl, hZ, hh⟩ := hP
 have hx := Bd.exec
 have hby := Bd.bytes
 have hml : c.maxLocals = 2 := hml0
 have hown0 := findClass_of_methodNamed Bd.named
 have hown : s.vm.findClass "java/lang/AbstractStringBuilder" = some m.cls := hown0
 have hnm := (name_of_methodNamed Bd.named Bd.method).1
 have X0 : Stand p l e (own_r 1 1 0 12) s m #[(.ref a1), (.int 0)] below meth c s₁ [] 0 0 := Stand.of_body Bd
 have e0 : s₁.heap = h0 := by rw [← hh, Bd.state]; rfl
 have N0 := Fr.nil n0
 obtain ⟨S0, hS0⟩ : ∃ z, z = s₁.setTop (entryFrame m #[(.ref a1), (.int 0)] 2) := ⟨_, rfl⟩
 have pre0 : own_Go p e below S0 (s₁.setTop (mkF m 0 #[vR a1, vI 0] [])) := fun t k => by rw [hS0]; exact castTop (ef_ai0 m a1) k
 have fin : ∀ t, Steps p.tables e below S0 t → Steps p.tables e below (s₁.setTop (entryFrame m #[(.ref a1), (.int 0)] 2)) t := fun t k => by rw [hS0] at k; exact k
 have kc0 : Keep h0 h0 [a1] := Keep.refl _ _
 have pre1 : own_Go p e below S0 (s₁.setTop (mkF m 1 #[vR a1, vI 0] [(.ref a1)])) := by
  intro t kt
  refine pre0 t ?_
  refine XS.aloadN X0.here hx rfl (hb hby d3_0) rfl rfl ?_
  exact kt
 obtain ⟨T2, X2, e2, st2⟩ := initO X0 hx hZ hown (H 17 rfl) (H 18 rfl) (H 19 rfl) e0 (g := (own_top pre1)) rfl (by rw [hml]; rfl) rfl (hb hby d3_1) (by decide) (W := 0) (by show 2 * 0 + _ ≤ _; exact Nat.le_of_eq rfl) (by decide)
 have pre3 : own_Go p e below S0 (T2.setTop (mkF m 4 #[vR a1, vI 0] [])) := by
  intro t kt
  refine pre1 t ?_
  refine st2 _ ?_
  exact kt
 obtain ⟨T4, X4, e4, st4⟩ := getS2 X2 hx hZ hown (host := "") (Or.inl (H 20 rfl)) Via.refl e2 (qC.1.ext O0.2) (g := (own_top pre3)) rfl (hb hby d3_4)
 have pre5 : own_Go p e below S0 (T4.setTop (mkF m 12 #[vR a1, vI 0] [(.int 0), (.ref a1)])) := by
  intro t kt
  refine pre3 t ?_
  refine st4 _ ?_
  refine XS.ifNo X4.here hx rfl (hb hby d3_7) rfl ((if0 _ _).trans (feq qC.2).1) ?_
  refine XS.aloadN X4.here hx rfl (hb hby d3_10) rfl rfl ?_
  refine XS.iloadN X4.here hx rfl (hb hby d3_11) rfl ?_
  exact kt
 obtain ⟨T6, h6, k6, X6, e6, E6, A6, Ax6, st6⟩ := newPE X4 hx hZ (H 0 rfl) e4 (g := (own_top pre5)) rfl (hb hby d3_12) rfl (by decide) (cap := 0) (by decide) (by decide) (by decide) (by decide) (ad := "[B") (by decide)
 obtain ⟨b6, g6⟩ : ∃ z, z = h0.size := ⟨_, rfl⟩
 rw [← g6] at A6 Ax6 st6
 have ne7 : a1 ≠ b6 := Nat.ne_of_lt (Nat.lt_of_lt_of_le pE1.lt (Nat.le_of_eq g6.symm))
 have ge8 : n0 ≤ b6 := Nat.le_trans Z0 (Nat.le_of_eq g6.symm)
 have sz9 : h0.size ≤ b6 := Nat.le_trans kc0.1 (Nat.le_of_eq g6.symm)
 have zs10 : n0 ≤ h6.size := Nat.le_trans Z0 E6.1
 have kc11 : Keep h0 h6 [a1] := kc0.ext E6
 have V6 : Arv Z h6 b6 k6 .byte (0 : Int32) [] (.int 0) := (Arv.new A6 (by decide)).pad (pad_rep [] (.int 0) 0)
 have pre12 : own_Go p e below S0 (T6.setTop (mkF m 14 #[vR a1, vI 0] [(.ref b6), (.ref a1)])) := by
  intro t kt
  refine pre5 t ?_
  refine st6 _ ?_
  exact kt
 have f13 : Fld Z h6 a1 "java/lang/AbstractStringBuilder" "value" "[B" .null := (pF1.ext E6)
 have f14 : Exa Z h6 a1 "java/lang/StringBuilder" := (pE1.ext E6)
 obtain ⟨T15, h15, X15, e15, W15, st15⟩ := putF X6 hx hZ hown (host := "") (Or.inl (H 22 rfl)) Via.refl e6 f13 f14 (Or.inl (H 23 rfl)) (H 6 rfl) (ty := (.array .byte)) (by decide) rfl rfl (g := (own_top pre12)) rfl rfl (hb hby d3_14)
 have N15 := Fr.snoc X15 N0 pg1
 have zs16 : n0 ≤ h15.size := Nat.le_trans zs10 (Keep.of_wr W15).1
 have kc17 : Keep h0 h15 [a1] := kc11.wr W15 (Or.inl (List.mem_of_getElem? (i := 0) rfl))
 have fw15 : Fld Z h15 a1 "java/lang/AbstractStringBuilder" "value" "[B" (.ref b6) := f13.same W15
 have pre18 : own_Go p e below S0 (T15.setTop (mkF m 19 #[vR a1, vI 0] [(.int 0), (.ref a1)])) := by
  intro t kt
  refine pre12 t ?_
  refine st15 _ ?_
  refine XS.aloadN X15.here hx rfl (hb hby d3_17) rfl rfl ?_
  refine XS.iconst X15.here hx rfl (hb hby d3_18) ?_
  exact kt
 have f19 : Fld Z h15 a1 "java/lang/AbstractStringBuilder" "coder" "B" (.int 0) := ((pF2.ext E6).other W15 (Or.inr (slot_ne (Or.inl (H 25 rfl)) (Or.inl (H 23 rfl)) (by decide) (t := .byte) (t' := (.array .byte)) (by decide) (by decide))))
 have f20 : Exa Z h15 a1 "java/lang/StringBuilder" := (f14.wr W15)
 obtain ⟨T21, h21, X21, e21, W21, st21⟩ := putFN X15 hx hZ hown (H 24 rfl) Via.refl e15 f19 f20 (Or.inl (H 25 rfl)) (H 6 rfl) (ty := .byte) (v' := (.int 0)) (by decide) rfl (by decide) (g := (own_top pre18)) rfl rfl (hb hby d3_19)
 have N21 := Fr.snoc X21 N15 pg1
 have zs22 : n0 ≤ h21.size := Nat.le_trans zs16 (Keep.of_wr W21).1
 have kc23 : Keep h0 h21 [a1] := kc17.wr W21 (Or.inl (List.mem_of_getElem? (i := 0) rfl))
 have fw21 : Fld Z h21 a1 "java/lang/AbstractStringBuilder" "coder" "B" (.int 0) := f19.same W21
 have pre24 : own_Go p e below S0 (T21.setTop (mkF m 38 #[vR a1, vI 0] [])) := by
  intro t kt
  refine pre18 t ?_
  refine st21 _ ?_
  refine XS.goto X21.here hx rfl (pc0 := 22) (pc' := 38) rfl (hb hby d3_22) (by decide) (by decide) ?_
  exact kt
 obtain ⟨fs, hr, hrun, hended, hW, hsame⟩ := X21.leave (v := none) (fun _ => rfl)
 refine ⟨_, _, fin _ (pre24 _ ?_), hrun, hended, _, _, rfl, ?_, ⟨_, rfl⟩, hW, hsame.mono (by decide) (by decide)⟩
 ·exact X21.returnOut hx Bd.returns (hb hby d3_38) hr
 have f25 : Exa Z h21 b6 "[B" := ((Ax6.wr W15).wr W21)
 have f26 : Arv Z h21 b6 k6 .byte (0 : Int32) [] (.int 0) := ((V6.other W15 (Ne.symm ne7)).other W21 (Ne.symm ne7))
 have f27 : Exa Z h21 a1 "java/lang/StringBuilder" := (f20.wr W21)
 have f28 : Fld Z h21 a1 "java/lang/AbstractStringBuilder" "value" "[B" (.ref b6) := (fw15.other W21 (Or.inr (slot_ne (Or.inl (H 23 rfl)) (Or.inl (H 25 rfl)) (by decide) (t := (.array .byte)) (t' := .byte) (by decide) (by decide))))
 have f29 : Fld Z h21 a1 "java/lang/AbstractStringBuilder" "count" "I" (.int 0) := (((pF3.ext E6).other W15 (Or.inr (slot_ne (Or.inl (H 56 rfl)) (Or.inl (H 23 rfl)) (by decide) (t := .int) (t' := (.array .byte)) (by decide) (by decide)))).other W21 (Or.inr (slot_ne (Or.inl (H 56 rfl)) (Or.inl (H 25 rfl)) (by decide) (t := .int) (t' := .byte) (by decide) (by decide))))
 ·show Qai0 Z a1 wC h0 n0 _ T21.heap _
  rw [e21]
  exact ⟨b6, k6, rfl, N21, kc23, sz9, f25, f26, f27, f28, fw21, f29⟩

theorem d2_0 : decode jdk_67_method_2_code 0 = .ok (.aload_n 0, 1) := by decide +kernel
theorem d2_1 : decode jdk_67_method_2_code 1 = .ok (.iload_n 1, 1) := by decide +kernel
theorem d2_2 : decode jdk_67_method_2_code 2 = .ok (.invokespecial 1, 3) := by decide +kernel
theorem d2_5 : decode jdk_67_method_2_code 5 = .ok (.return_, 1) := by decide +kernel
theorem pn_2 : plainName "java/lang/StringBuilder" = true := by first | (simp [plainName, overriddenIn]; done) | decide +kernel
theorem pd_4 : parseMethodDescriptor "(I)V" = some ⟨[.int], none⟩ := by decide +kernel
theorem ef_si0 (m : MethodId) (x0 : Addr) : entryFrame m #[(.ref x0), (.int 0)] 2 = mkF m 0 #[vR x0, vI 0] [] := by first | (simp [entryFrame, mkF, argsToLocals, Value.category]; done) | rfl
def Qsi0 (Z : State) (a1 : Addr) (wC : Int32) (h0 : Heap) (n0 : Nat) (v : Option Value) (h : Heap) (L : List Loc) : Prop := ∃ b : Addr, ∃ kb : ClassId, v = none ∧ Fr n0 L ∧ Keep h0 h [a1] ∧ h0.size ≤ b ∧ Exa Z h b "[B" ∧ Arv Z h b kb .byte (0 : Int32) [] (.int 0) ∧ Exa Z h a1 "java/lang/StringBuilder" ∧ Fld Z h a1 "java/lang/AbstractStringBuilder" "value" "[B" (.ref b) ∧ Fld Z h a1 "java/lang/AbstractStringBuilder" "coder" "B" (.int 0) ∧ Fld Z h a1 "java/lang/AbstractStringBuilder" "count" "I" (.int 0)
set_option maxRecDepth 65536 in
set_option maxHeartbeats 40000000 in
theorem rmsi0 (l : Launch) (Z : State) (a0 : Array Value) (hw : ∀ d ∈ tables_1, d.before a0 Z = true) (ws : List Jvm.Cond) (a1 : Addr) (wC : Int32) (h0 : Heap) (n0 : Nat) (Z0 : n0 ≤ h0.size) (O0 : Old Z n0 h0) (qC : (own_SC Z wC)) (pE1 : Exa Z h0 a1 "java/lang/StringBuilder") (pF1 : Fld Z h0 a1 "java/lang/AbstractStringBuilder" "value" "[B" .null) (pF2 : Fld Z h0 a1 "java/lang/AbstractStringBuilder" "coder" "B" (.int 0)) (pF3 : Fld Z h0 a1 "java/lang/AbstractStringBuilder" "count" "I" (.int 0)) (pg1 : n0 ≤ a1) :
  MetFree l own_m20 (head1 (Jvm.Cond.code own_m20 jdk_67_method_2_code 2 none :: ws) (own_r 2 1 0 25)) (fun a U => a = #[(.ref a1), (.int 0)] ∧ Z.Warmed39 U.vm ∧ U.heap = h0) (fun _ _ _ _ _ => True) (fun _ U o U' => ∃ v L, o = .returned v ∧ Qsi0 Z a1 wC h0 n0 v U'.heap L ∧ FrameEnd U o U' L (own_r 2 1 0 25).cells (own_r 2 1 0 25).slots) := by
 refine MetFree.of_bodySF (plainFor_of_name pn_2) hisR ?_
 intro p e s m args below meth c s₁ Bd hml0 hP hK
 have H : ∀ (i : Nat) {d : Jvm.Cond}, tables_1[i]? = some d → d.before a0 Z = true := fun i _ h => hw _ (own_w i h)
 obtain ⟨rfl, hZ, hh⟩ := hP
 have hx := Bd.exec
 have hby := Bd.bytes
 have hml : c.maxLocals = 2 := hml0
 have hown0 := findClass_of_methodNamed Bd.named
 have hown : s.vm.findClass "java/lang/StringBuilder" = some m.cls := hown0
 have hnm := (name_of_methodNamed Bd.named Bd.method).1
 have X0 : Stand p l e (own_r 2 1 0 25) s m #[(.ref a1), (.int 0)] below meth c s₁ [] 0 0 := Stand.of_body Bd
 have e0 : s₁.heap = h0 := by rw [← hh, Bd.state]; rfl
 have N0 := Fr.nil n0
 obtain ⟨S0, hS0⟩ : ∃ z, z = s₁.setTop (entryFrame m #[(.ref a1), (.int 0)] 2) := ⟨_, rfl⟩
 have pre0 : own_Go p e below S0 (s₁.setTop (mkF m 0 #[vR a1, vI 0] [])) := fun t k => by rw [hS0]; exact castTop (ef_si0 m a1) k
 have fin : ∀ t, Steps p.tables e below S0 t → Steps p.tables e below (s₁.setTop (entryFrame m #[(.ref a1), (.int 0)] 2)) t := fun t k => by rw [hS0] at k; exact k
 have kc0 : Keep h0 h0 [a1] := Keep.refl _ _
 have pre1 : own_Go p e below S0 (s₁.setTop (mkF m 2 #[vR a1, vI 0] [(.int 0), (.ref a1)])) := by
  intro t kt
  refine pre0 t ?_
  refine XS.aloadN X0.here hx rfl (hb hby d2_0) rfl rfl ?_
  refine XS.iloadN X0.here hx rfl (hb hby d2_1) rfl ?_
  exact kt
 obtain ⟨_, _, ⟨T2, L2, k2, n2⟩, -, X2, ⟨Lc2, hQ2, l2, y2, z2⟩, st2⟩ := X0.specialBack hx (y := own_m4) rfl hown (mvT hZ (H 11 rfl)) (mvT hZ (H 12 rfl)) (mvT hZ (H 16 rfl)) (by decide) (backOf (W := 0) (rmai0 l Z a0 hw [] a1 wC h0 n0 Z0 O0 qC pE1 pF1 pF2 pF3 pg1) hZ (H 16 rfl) (H 15 rfl) (by decide) (by decide)) (g := (own_top pre1)) rfl (by rw [hml]; rfl) (Steps.refl _) (a := a1) (argsL := [(.int 0)]) (rest := []) (lenOf pd_4 rfl) rfl (by show 2 * 0 + _ ≤ _; exact Nat.le_of_eq rfl) (hb hby d2_2) (fun _ _ => ⟨rfl, e0, (by decide : 0 + 1 ≤ _), (by decide : 0 + 0 ≤ _)⟩)
 dsimp only [Pt.U, Pt.locs, Pt.cells, Pt.slots] at X2 l2 y2 z2 st2 hQ2
 subst l2 y2 z2
 obtain ⟨b3, kb4, rfl, Nq2, K2, g5, g6, g7, g8, g9, g10, g11⟩ := hQ2
 have N2 := Fr.app N0 Nq2
 have ne12 : a1 ≠ b3 := Nat.ne_of_lt (Nat.lt_of_lt_of_le pE1.lt g5)
 have ge13 : n0 ≤ b3 := Nat.le_trans Z0 g5
 have sz14 : h0.size ≤ b3 := Nat.le_trans kc0.1 g5
 have zs15 : n0 ≤ T2.heap.size := Nat.le_trans Z0 K2.1
 have kc16 : Keep h0 T2.heap [a1] := kc0.trans K2 (allS (Or.inl (List.mem_of_getElem? (i := 0) rfl)) all0)
 have pre17 : own_Go p e below S0 (T2.setTop (mkF m 5 #[vR a1, vI 0] [])) := by
  intro t kt
  refine pre1 t ?_
  refine st2.trans ?_
  show Steps p.tables e below (T2.setTop (mkF m 5 #[vR a1, vI 0] [])) _
  exact kt
 obtain ⟨fs, hr, hrun, hended, hW, hsame⟩ := X2.leave (v := none) (fun _ => rfl)
 refine ⟨_, _, fin _ (pre17 _ ?_), hrun, hended, _, _, rfl, ?_, ⟨_, rfl⟩, hW, hsame.mono (by decide) (by decide)⟩
 ·exact X2.returnOut hx Bd.returns (hb hby d2_5) hr
 ·show Qsi0 Z a1 wC h0 n0 _ T2.heap _
  exact ⟨b3, kb4, rfl, N2, kc16, sz14, g6, g7, g8, g9, g10, g11⟩

theorem ef_ai1 (m : MethodId) (x0 : Addr) : entryFrame m #[(.ref x0), (.int 1)] 2 = mkF m 0 #[vR x0, vI 1] [] := by first | (simp [entryFrame, mkF, argsToLocals, Value.category]; done) | rfl
def Qai1 (Z : State) (a1 : Addr) (wC : Int32) (h0 : Heap) (n0 : Nat) (v : Option Value) (h : Heap) (L : List Loc) : Prop := ∃ b : Addr, ∃ kb : ClassId, v = none ∧ Fr n0 L ∧ Keep h0 h [a1] ∧ h0.size ≤ b ∧ Exa Z h b "[B" ∧ Arv Z h b kb .byte (1 : Int32) [(.int 0)] (.int 0) ∧ Exa Z h a1 "java/lang/StringBuilder" ∧ Fld Z h a1 "java/lang/AbstractStringBuilder" "value" "[B" (.ref b) ∧ Fld Z h a1 "java/lang/AbstractStringBuilder" "coder" "B" (.int 0) ∧ Fld Z h a1 "java/lang/AbstractStringBuilder" "count" "I" (.int 0)
set_option maxRecDepth 65536 in
set_option maxHeartbeats 40000000 in
theorem rmai1 (l : Launch) (Z : State) (a0 : Array Value) (hw : ∀ d ∈ tables_1, d.before a0 Z = true) (ws : List Jvm.Cond) (a1 : Addr) (wC : Int32) (h0 : Heap) (n0 : Nat) (Z0 : n0 ≤ h0.size) (O0 : Old Z n0 h0) (qC : (own_SC Z wC)) (pE1 : Exa Z h0 a1 "java/lang/StringBuilder") (pF1 : Fld Z h0 a1 "java/lang/AbstractStringBuilder" "value" "[B" .null) (pF2 : Fld Z h0 a1 "java/lang/AbstractStringBuilder" "coder" "B" (.int 0)) (pF3 : Fld Z h0 a1 "java/lang/AbstractStringBuilder" "count" "I" (.int 0)) (pg1 : n0 ≤ a1) :
  MetFree l own_m4 (head1 (Jvm.Cond.code own_m4 jdk_68_method_2_code 2 none :: ws) (own_r 1 1 1 12)) (fun a U => a = #[(.ref a1), (.int 1)] ∧ Z.Warmed39 U.vm ∧ U.heap = h0) (fun _ _ _ _ _ => True) (fun _ U o U' => ∃ v L, o = .returned v ∧ Qai1 Z a1 wC h0 n0 v U'.heap L ∧ FrameEnd U o U' L (own_r 1 1 1 12).cells (own_r 1 1 1 12).slots) := by
 refine MetFree.of_bodySF (plainFor_of_name pn_3) hisR ?_
 intro p e s m args below meth c s₁ Bd hml0 hP hK
 have H : ∀ (i : Nat) {d : Jvm.Cond}, tables_1[i]? = some d → d.before a0 Z = true := fun i _ h => hw _ (own_w i h)
 obtain ⟨rfl, hZ, hh⟩ := hP
 have hx := Bd.exec
 have hby := Bd.bytes
 have hml : c.maxLocals = 2 := hml0
 have hown0 := findClass_of_methodNamed Bd.named
 have hown : s.vm.findClass "java/lang/AbstractStringBuilder" = some m.cls := hown0
 have hnm := (name_of_methodNamed Bd.named Bd.method).1
 have X0 : Stand p l e (own_r 1 1 1 12) s m #[(.ref a1), (.int 1)] below meth c s₁ [] 0 0 := Stand.of_body Bd
 have e0 : s₁.heap = h0 := by rw [← hh, Bd.state]; rfl
 have N0 := Fr.nil n0
 obtain ⟨S0, hS0⟩ : ∃ z, z = s₁.setTop (entryFrame m #[(.ref a1), (.int 1)] 2) := ⟨_, rfl⟩
 have pre0 : own_Go p e below S0 (s₁.setTop (mkF m 0 #[vR a1, vI 1] [])) := fun t k => by rw [hS0]; exact castTop (ef_ai1 m a1) k
 have fin : ∀ t, Steps p.tables e below S0 t → Steps p.tables e below (s₁.setTop (entryFrame m #[(.ref a1), (.int 1)] 2)) t := fun t k => by rw [hS0] at k; exact k
 have kc0 : Keep h0 h0 [a1] := Keep.refl _ _
 have pre1 : own_Go p e below S0 (s₁.setTop (mkF m 1 #[vR a1, vI 1] [(.ref a1)])) := by
  intro t kt
  refine pre0 t ?_
  refine XS.aloadN X0.here hx rfl (hb hby d3_0) rfl rfl ?_
  exact kt
 obtain ⟨T2, X2, e2, st2⟩ := initO X0 hx hZ hown (H 17 rfl) (H 18 rfl) (H 19 rfl) e0 (g := (own_top pre1)) rfl (by rw [hml]; rfl) rfl (hb hby d3_1) (by decide) (W := 0) (by show 2 * 0 + _ ≤ _; exact Nat.le_of_eq rfl) (by decide)
 have pre3 : own_Go p e below S0 (T2.setTop (mkF m 4 #[vR a1, vI 1] [])) := by
  intro t kt
  refine pre1 t ?_
  refine st2 _ ?_
  exact kt
 obtain ⟨T4, X4, e4, st4⟩ := getS2 X2 hx hZ hown (host := "") (Or.inl (H 20 rfl)) Via.refl e2 (qC.1.ext O0.2) (g := (own_top pre3)) rfl (hb hby d3_4)
 have pre5 : own_Go p e below S0 (T4.setTop (mkF m 12 #[vR a1, vI 1] [(.int 1), (.ref a1)])) := by
  intro t kt
  refine pre3 t ?_
  refine st4 _ ?_
  refine XS.ifNo X4.here hx rfl (hb hby d3_7) rfl ((if0 _ _).trans (feq qC.2).1) ?_
  refine XS.aloadN X4.here hx rfl (hb hby d3_10) rfl rfl ?_
  refine XS.iloadN X4.here hx rfl (hb hby d3_11) rfl ?_
  exact kt
 obtain ⟨T6, h6, k6, X6, e6, E6, A6, Ax6, st6⟩ := newPE X4 hx hZ (H 0 rfl) e4 (g := (own_top pre5)) rfl (hb hby d3_12) rfl (by decide) (cap := 1) (by decide) (by decide) (by decide) (by decide) (ad := "[B") (by decide)
 obtain ⟨b6, g6⟩ : ∃ z, z = h0.size := ⟨_, rfl⟩
 rw [← g6] at A6 Ax6 st6
 have ne7 : a1 ≠ b6 := Nat.ne_of_lt (Nat.lt_of_lt_of_le pE1.lt (Nat.le_of_eq g6.symm))
 have ge8 : n0 ≤ b6 := Nat.le_trans Z0 (Nat.le_of_eq g6.symm)
 have sz9 : h0.size ≤ b6 := Nat.le_trans kc0.1 (Nat.le_of_eq g6.symm)
 have zs10 : n0 ≤ h6.size := Nat.le_trans Z0 E6.1
 have kc11 : Keep h0 h6 [a1] := kc0.ext E6
 have V6 : Arv Z h6 b6 k6 .byte (1 : Int32) [(.int 0)] (.int 0) := (Arv.new A6 (by decide)).pad (pad_rep [] (.int 0) 1)
 have pre12 : own_Go p e below S0 (T6.setTop (mkF m 14 #[vR a1, vI 1] [(.ref b6), (.ref a1)])) := by
  intro t kt
  refine pre5 t ?_
  refine st6 _ ?_
  exact kt
 have f13 : Fld Z h6 a1 "java/lang/AbstractStringBuilder" "value" "[B" .null := (pF1.ext E6)
 have f14 : Exa Z h6 a1 "java/lang/StringBuilder" := (pE1.ext E6)
 obtain ⟨T15, h15, X15, e15, W15, st15⟩ := putF X6 hx hZ hown (host := "") (Or.inl (H 22 rfl)) Via.refl e6 f13 f14 (Or.inl (H 23 rfl)) (H 6 rfl) (ty := (.array .byte)) (by decide) rfl rfl (g := (own_top pre12)) rfl rfl (hb hby d3_14)
 have N15 := Fr.snoc X15 N0 pg1
 have zs16 : n0 ≤ h15.size := Nat.le_trans zs10 (Keep.of_wr W15).1
 have kc17 : Keep h0 h15 [a1] := kc11.wr W15 (Or.inl (List.mem_of_getElem? (i := 0) rfl))
 have fw15 : Fld Z h15 a1 "java/lang/AbstractStringBuilder" "value" "[B" (.ref b6) := f13.same W15
 have pre18 : own_Go p e below S0 (T15.setTop (mkF m 19 #[vR a1, vI 1] [(.int 0), (.ref a1)])) := by
  intro t kt
  refine pre12 t ?_
  refine st15 _ ?_
  refine XS.aloadN X15.here hx rfl (hb hby d3_17) rfl rfl ?_
  refine XS.iconst X15.here hx rfl (hb hby d3_18) ?_
  exact kt
 have f19 : Fld Z h15 a1 "java/lang/AbstractStringBuilder" "coder" "B" (.int 0) := ((pF2.ext E6).other W15 (Or.inr (slot_ne (Or.inl (H 25 rfl)) (Or.inl (H 23 rfl)) (by decide) (t := .byte) (t' := (.array .byte)) (by decide) (by decide))))
 have f20 : Exa Z h15 a1 "java/lang/StringBuilder" := (f14.wr W15)
 obtain ⟨T21, h21, X21, e21, W21, st21⟩ := putFN X15 hx hZ hown (H 24 rfl) Via.refl e15 f19 f20 (Or.inl (H 25 rfl)) (H 6 rfl) (ty := .byte) (v' := (.int 0)) (by decide) rfl (by decide) (g := (own_top pre18)) rfl rfl (hb hby d3_19)
 have N21 := Fr.snoc X21 N15 pg1
 have zs22 : n0 ≤ h21.size := Nat.le_trans zs16 (Keep.of_wr W21).1
 have kc23 : Keep h0 h21 [a1] := kc17.wr W21 (Or.inl (List.mem_of_getElem? (i := 0) rfl))
 have fw21 : Fld Z h21 a1 "java/lang/AbstractStringBuilder" "coder" "B" (.int 0) := f19.same W21
 have pre24 : own_Go p e below S0 (T21.setTop (mkF m 38 #[vR a1, vI 1] [])) := by
  intro t kt
  refine pre18 t ?_
  refine st21 _ ?_
  refine XS.goto X21.here hx rfl (pc0 := 22) (pc' := 38) rfl (hb hby d3_22) (by decide) (by decide) ?_
  exact kt
 obtain ⟨fs, hr, hrun, hended, hW, hsame⟩ := X21.leave (v := none) (fun _ => rfl)
 refine ⟨_, _, fin _ (pre24 _ ?_), hrun, hended, _, _, rfl, ?_, ⟨_, rfl⟩, hW, hsame.mono (by decide) (by decide)⟩
 ·exact X21.returnOut hx Bd.returns (hb hby d3_38) hr
 have f25 : Exa Z h21 b6 "[B" := ((Ax6.wr W15).wr W21)
 have f26 : Arv Z h21 b6 k6 .byte (1 : Int32) [(.int 0)] (.int 0) := ((V6.other W15 (Ne.symm ne7)).other W21 (Ne.symm ne7))
 have f27 : Exa Z h21 a1 "java/lang/StringBuilder" := (f20.wr W21)
 have f28 : Fld Z h21 a1 "java/lang/AbstractStringBuilder" "value" "[B" (.ref b6) := (fw15.other W21 (Or.inr (slot_ne (Or.inl (H 23 rfl)) (Or.inl (H 25 rfl)) (by decide) (t := (.array .byte)) (t' := .byte) (by decide) (by decide))))
 have f29 : Fld Z h21 a1 "java/lang/AbstractStringBuilder" "count" "I" (.int 0) := (((pF3.ext E6).other W15 (Or.inr (slot_ne (Or.inl (H 56 rfl)) (Or.inl (H 23 rfl)) (by decide) (t := .int) (t' := (.array .byte)) (by decide) (by decide)))).other W21 (Or.inr (slot_ne (Or.inl (H 56 rfl)) (Or.inl (H 25 rfl)) (by decide) (t := .int) (t' := .byte) (by decide) (by decide))))
 ·show Qai1 Z a1 wC h0 n0 _ T21.heap _
  rw [e21]
  exact ⟨b6, k6, rfl, N21, kc23, sz9, f25, f26, f27, f28, fw21, f29⟩

theorem ef_si1 (m : MethodId) (x0 : Addr) : entryFrame m #[(.ref x0), (.int 1)] 2 = mkF m 0 #[vR x0, vI 1] [] := by first | (simp [entryFrame, mkF, argsToLocals, Value.category]; done) | rfl
def Qsi1 (Z : State) (a1 : Addr) (wC : Int32) (h0 : Heap) (n0 : Nat) (v : Option Value) (h : Heap) (L : List Loc) : Prop := ∃ b : Addr, ∃ kb : ClassId, v = none ∧ Fr n0 L ∧ Keep h0 h [a1] ∧ h0.size ≤ b ∧ Exa Z h b "[B" ∧ Arv Z h b kb .byte (1 : Int32) [(.int 0)] (.int 0) ∧ Exa Z h a1 "java/lang/StringBuilder" ∧ Fld Z h a1 "java/lang/AbstractStringBuilder" "value" "[B" (.ref b) ∧ Fld Z h a1 "java/lang/AbstractStringBuilder" "coder" "B" (.int 0) ∧ Fld Z h a1 "java/lang/AbstractStringBuilder" "count" "I" (.int 0)
set_option maxRecDepth 65536 in
set_option maxHeartbeats 40000000 in
theorem rmsi1 (l : Launch) (Z : State) (a0 : Array Value) (hw : ∀ d ∈ tables_1, d.before a0 Z = true) (ws : List Jvm.Cond) (a1 : Addr) (wC : Int32) (h0 : Heap) (n0 : Nat) (Z0 : n0 ≤ h0.size) (O0 : Old Z n0 h0) (qC : (own_SC Z wC)) (pE1 : Exa Z h0 a1 "java/lang/StringBuilder") (pF1 : Fld Z h0 a1 "java/lang/AbstractStringBuilder" "value" "[B" .null) (pF2 : Fld Z h0 a1 "java/lang/AbstractStringBuilder" "coder" "B" (.int 0)) (pF3 : Fld Z h0 a1 "java/lang/AbstractStringBuilder" "count" "I" (.int 0)) (pg1 : n0 ≤ a1) :
  MetFree l own_m20 (head1 (Jvm.Cond.code own_m20 jdk_67_method_2_code 2 none :: ws) (own_r 2 1 1 25)) (fun a U => a = #[(.ref a1), (.int 1)] ∧ Z.Warmed39 U.vm ∧ U.heap = h0) (fun _ _ _ _ _ => True) (fun _ U o U' => ∃ v L, o = .returned v ∧ Qsi1 Z a1 wC h0 n0 v U'.heap L ∧ FrameEnd U o U' L (own_r 2 1 1 25).cells (own_r 2 1 1 25).slots) := by
 refine MetFree.of_bodySF (plainFor_of_name pn_2) hisR ?_
 intro p e s m args below meth c s₁ Bd hml0 hP hK
 have H : ∀ (i : Nat) {d : Jvm.Cond}, tables_1[i]? = some d → d.before a0 Z = true := fun i _ h => hw _ (own_w i h)
 obtain ⟨rfl, hZ, hh⟩ := hP
 have hx := Bd.exec
 have hby := Bd.bytes
 have hml : c.maxLocals = 2 := hml0
 have hown0 := findClass_of_methodNamed Bd.named
 have hown : s.vm.findClass "java/lang/StringBuilder" = some m.cls := hown0
 have hnm := (name_of_methodNamed Bd.named Bd.method).1
 have X0 : Stand p l e (own_r 2 1 1 25) s m #[(.ref a1), (.int 1)] below meth c s₁ [] 0 0 := Stand.of_body Bd
 have e0 : s₁.heap = h0 := by rw [← hh, Bd.state]; rfl
 have N0 := Fr.nil n0
 obtain ⟨S0, hS0⟩ : ∃ z, z = s₁.setTop (entryFrame m #[(.ref a1), (.int 1)] 2) := ⟨_, rfl⟩
 have pre0 : own_Go p e below S0 (s₁.setTop (mkF m 0 #[vR a1, vI 1] [])) := fun t k => by rw [hS0]; exact castTop (ef_si1 m a1) k
 have fin : ∀ t, Steps p.tables e below S0 t → Steps p.tables e below (s₁.setTop (entryFrame m #[(.ref a1), (.int 1)] 2)) t := fun t k => by rw [hS0] at k; exact k
 have kc0 : Keep h0 h0 [a1] := Keep.refl _ _
 have pre1 : own_Go p e below S0 (s₁.setTop (mkF m 2 #[vR a1, vI 1] [(.int 1), (.ref a1)])) := by
  intro t kt
  refine pre0 t ?_
  refine XS.aloadN X0.here hx rfl (hb hby d2_0) rfl rfl ?_
  refine XS.iloadN X0.here hx rfl (hb hby d2_1) rfl ?_
  exact kt
 obtain ⟨_, _, ⟨T2, L2, k2, n2⟩, -, X2, ⟨Lc2, hQ2, l2, y2, z2⟩, st2⟩ := X0.specialBack hx (y := own_m4) rfl hown (mvT hZ (H 11 rfl)) (mvT hZ (H 12 rfl)) (mvT hZ (H 16 rfl)) (by decide) (backOf (W := 0) (rmai1 l Z a0 hw [] a1 wC h0 n0 Z0 O0 qC pE1 pF1 pF2 pF3 pg1) hZ (H 16 rfl) (H 15 rfl) (by decide) (by decide)) (g := (own_top pre1)) rfl (by rw [hml]; rfl) (Steps.refl _) (a := a1) (argsL := [(.int 1)]) (rest := []) (lenOf pd_4 rfl) rfl (by show 2 * 0 + _ ≤ _; exact Nat.le_of_eq rfl) (hb hby d2_2) (fun _ _ => ⟨rfl, e0, (by decide : 0 + 1 ≤ _), (by decide : 0 + 1 ≤ _)⟩)
 dsimp only [Pt.U, Pt.locs, Pt.cells, Pt.slots] at X2 l2 y2 z2 st2 hQ2
 subst l2 y2 z2
 obtain ⟨b3, kb4, rfl, Nq2, K2, g5, g6, g7, g8, g9, g10, g11⟩ := hQ2
 have N2 := Fr.app N0 Nq2
 have ne12 : a1 ≠ b3 := Nat.ne_of_lt (Nat.lt_of_lt_of_le pE1.lt g5)
 have ge13 : n0 ≤ b3 := Nat.le_trans Z0 g5
 have sz14 : h0.size ≤ b3 := Nat.le_trans kc0.1 g5
 have zs15 : n0 ≤ T2.heap.size := Nat.le_trans Z0 K2.1
 have kc16 : Keep h0 T2.heap [a1] := kc0.trans K2 (allS (Or.inl (List.mem_of_getElem? (i := 0) rfl)) all0)
 have pre17 : own_Go p e below S0 (T2.setTop (mkF m 5 #[vR a1, vI 1] [])) := by
  intro t kt
  refine pre1 t ?_
  refine st2.trans ?_
  show Steps p.tables e below (T2.setTop (mkF m 5 #[vR a1, vI 1] [])) _
  exact kt
 obtain ⟨fs, hr, hrun, hended, hW, hsame⟩ := X2.leave (v := none) (fun _ => rfl)
 refine ⟨_, _, fin _ (pre17 _ ?_), hrun, hended, _, _, rfl, ?_, ⟨_, rfl⟩, hW, hsame.mono (by decide) (by decide)⟩
 ·exact X2.returnOut hx Bd.returns (hb hby d2_5) hr
 ·show Qsi1 Z a1 wC h0 n0 _ T2.heap _
  exact ⟨b3, kb4, rfl, N2, kc16, sz14, g6, g7, g8, g9, g10, g11⟩

theorem ef_ai2 (m : MethodId) (x0 : Addr) : entryFrame m #[(.ref x0), (.int 2)] 2 = mkF m 0 #[vR x0, vI 2] [] := by first | (simp [entryFrame, mkF, argsToLocals, Value.category]; done) | rfl
def Qai2 (Z : State) (a1 : Addr) (wC : Int32) (h0 : Heap) (n0 : Nat) (v : Option Value) (h : Heap) (L : List Loc) : Prop := ∃ b : Addr, ∃ kb : ClassId, v = none ∧ Fr n0 L ∧ Keep h0 h [a1] ∧ h0.size ≤ b ∧ Exa Z h b "[B" ∧ Arv Z h b kb .byte (2 : Int32) [(.int 0), (.int 0)] (.int 0) ∧ Exa Z h a1 "java/lang/StringBuilder" ∧ Fld Z h a1 "java/lang/AbstractStringBuilder" "value" "[B" (.ref b) ∧ Fld Z h a1 "java/lang/AbstractStringBuilder" "coder" "B" (.int 0) ∧ Fld Z h a1 "java/lang/AbstractStringBuilder" "count" "I" (.int 0)
set_option maxRecDepth 65536 in
set_option maxHeartbeats 40000000 in
theorem rmai2 (l : Launch) (Z : State) (a0 : Array Value) (hw : ∀ d ∈ tables_1, d.before a0 Z = true) (ws : List Jvm.Cond) (a1 : Addr) (wC : Int32) (h0 : Heap) (n0 : Nat) (Z0 : n0 ≤ h0.size) (O0 : Old Z n0 h0) (qC : (own_SC Z wC)) (pE1 : Exa Z h0 a1 "java/lang/StringBuilder") (pF1 : Fld Z h0 a1 "java/lang/AbstractStringBuilder" "value" "[B" .null) (pF2 : Fld Z h0 a1 "java/lang/AbstractStringBuilder" "coder" "B" (.int 0)) (pF3 : Fld Z h0 a1 "java/lang/AbstractStringBuilder" "count" "I" (.int 0)) (pg1 : n0 ≤ a1) :
  MetFree l own_m4 (head1 (Jvm.Cond.code own_m4 jdk_68_method_2_code 2 none :: ws) (own_r 1 1 2 12)) (fun a U => a = #[(.ref a1), (.int 2)] ∧ Z.Warmed39 U.vm ∧ U.heap = h0) (fun _ _ _ _ _ => True) (fun _ U o U' => ∃ v L, o = .returned v ∧ Qai2 Z a1 wC h0 n0 v U'.heap L ∧ FrameEnd U o U' L (own_r 1 1 2 12).cells (own_r 1 1 2 12).slots) := by
 refine MetFree.of_bodySF (plainFor_of_name pn_3) hisR ?_
 intro p e s m args below meth c s₁ Bd hml0 hP hK
 have H : ∀ (i : Nat) {d : Jvm.Cond}, tables_1[i]? = some d → d.before a0 Z = true := fun i _ h => hw _ (own_w i h)
 obtain ⟨rfl, hZ, hh⟩ := hP
 have hx := Bd.exec
 have hby := Bd.bytes
 have hml : c.maxLocals = 2 := hml0
 have hown0 := findClass_of_methodNamed Bd.named
 have hown : s.vm.findClass "java/lang/AbstractStringBuilder" = some m.cls := hown0
 have hnm := (name_of_methodNamed Bd.named Bd.method).1
 have X0 : Stand p l e (own_r 1 1 2 12) s m #[(.ref a1), (.int 2)] below meth c s₁ [] 0 0 := Stand.of_body Bd
 have e0 : s₁.heap = h0 := by rw [← hh, Bd.state]; rfl
 have N0 := Fr.nil n0
 obtain ⟨S0, hS0⟩ : ∃ z, z = s₁.setTop (entryFrame m #[(.ref a1), (.int 2)] 2) := ⟨_, rfl⟩
 have pre0 : own_Go p e below S0 (s₁.setTop (mkF m 0 #[vR a1, vI 2] [])) := fun t k => by rw [hS0]; exact castTop (ef_ai2 m a1) k
 have fin : ∀ t, Steps p.tables e below S0 t → Steps p.tables e below (s₁.setTop (entryFrame m #[(.ref a1), (.int 2)] 2)) t := fun t k => by rw [hS0] at k; exact k
 have kc0 : Keep h0 h0 [a1] := Keep.refl _ _
 have pre1 : own_Go p e below S0 (s₁.setTop (mkF m 1 #[vR a1, vI 2] [(.ref a1)])) := by
  intro t kt
  refine pre0 t ?_
  refine XS.aloadN X0.here hx rfl (hb hby d3_0) rfl rfl ?_
  exact kt
 obtain ⟨T2, X2, e2, st2⟩ := initO X0 hx hZ hown (H 17 rfl) (H 18 rfl) (H 19 rfl) e0 (g := (own_top pre1)) rfl (by rw [hml]; rfl) rfl (hb hby d3_1) (by decide) (W := 0) (by show 2 * 0 + _ ≤ _; exact Nat.le_of_eq rfl) (by decide)
 have pre3 : own_Go p e below S0 (T2.setTop (mkF m 4 #[vR a1, vI 2] [])) := by
  intro t kt
  refine pre1 t ?_
  refine st2 _ ?_
  exact kt
 obtain ⟨T4, X4, e4, st4⟩ := getS2 X2 hx hZ hown (host := "") (Or.inl (H 20 rfl)) Via.refl e2 (qC.1.ext O0.2) (g := (own_top pre3)) rfl (hb hby d3_4)
 have pre5 : own_Go p e below S0 (T4.setTop (mkF m 12 #[vR a1, vI 2] [(.int 2), (.ref a1)])) := by
  intro t kt
  refine pre3 t ?_
  refine st4 _ ?_
  refine XS.ifNo X4.here hx rfl (hb hby d3_7) rfl ((if0 _ _).trans (feq qC.2).1) ?_
  refine XS.aloadN X4.here hx rfl (hb hby d3_10) rfl rfl ?_
  refine XS.iloadN X4.here hx rfl (hb hby d3_11) rfl ?_
  exact kt
 obtain ⟨T6, h6, k6, X6, e6, E6, A6, Ax6, st6⟩ := newPE X4 hx hZ (H 0 rfl) e4 (g := (own_top pre5)) rfl (hb hby d3_12) rfl (by decide) (cap := 2) (by decide) (by decide) (by decide) (by decide) (ad := "[B") (by decide)
 obtain ⟨b6, g6⟩ : ∃ z, z = h0.size := ⟨_, rfl⟩
 rw [← g6] at A6 Ax6 st6
 have ne7 : a1 ≠ b6 := Nat.ne_of_lt (Nat.lt_of_lt_of_le pE1.lt (Nat.le_of_eq g6.symm))
 have ge8 : n0 ≤ b6 := Nat.le_trans Z0 (Nat.le_of_eq g6.symm)
 have sz9 : h0.size ≤ b6 := Nat.le_trans kc0.1 (Nat.le_of_eq g6.symm)
 have zs10 : n0 ≤ h6.size := Nat.le_trans Z0 E6.1
 have kc11 : Keep h0 h6 [a1] := kc0.ext E6
 have V6 : Arv Z h6 b6 k6 .byte (2 : Int32) [(.int 0), (.int 0)] (.int 0) := (Arv.new A6 (by decide)).pad (pad_rep [] (.int 0) 2)
 have pre12 : own_Go p e below S0 (T6.setTop (mkF m 14 #[vR a1, vI 2] [(.ref b6), (.ref a1)])) := by
  intro t kt
  refine pre5 t ?_
  refine st6 _ ?_
  exact kt
 have f13 : Fld Z h6 a1 "java/lang/AbstractStringBuilder" "value" "[B" .null := (pF1.ext E6)
 have f14 : Exa Z h6 a1 "java/lang/StringBuilder" := (pE1.ext E6)
 obtain ⟨T15, h15, X15, e15, W15, st15⟩ := putF X6 hx hZ hown (host := "") (Or.inl (H 22 rfl)) Via.refl e6 f13 f14 (Or.inl (H 23 rfl)) (H 6 rfl) (ty := (.array .byte)) (by decide) rfl rfl (g := (own_top pre12)) rfl rfl (hb hby d3_14)
 have N15 := Fr.snoc X15 N0 pg1
 have zs16 : n0 ≤ h15.size := Nat.le_trans zs10 (Keep.of_wr W15).1
 have kc17 : Keep h0 h15 [a1] := kc11.wr W15 (Or.inl (List.mem_of_getElem? (i := 0) rfl))
 have fw15 : Fld Z h15 a1 "java/lang/AbstractStringBuilder" "value" "[B" (.ref b6) := f13.same W15
 have pre18 : own_Go p e below S0 (T15.setTop (mkF m 19 #[vR a1, vI 2] [(.int 0), (.ref a1)])) := by
  intro t kt
  refine pre12 t ?_
  refine st15 _ ?_
  refine XS.aloadN X15.here hx rfl (hb hby d3_17) rfl rfl ?_
  refine XS.iconst X15.here hx rfl (hb hby d3_18) ?_
  exact kt
 have f19 : Fld Z h15 a1 "java/lang/AbstractStringBuilder" "coder" "B" (.int 0) := ((pF2.ext E6).other W15 (Or.inr (slot_ne (Or.inl (H 25 rfl)) (Or.inl (H 23 rfl)) (by decide) (t := .byte) (t' := (.array .byte)) (by decide) (by decide))))
 have f20 : Exa Z h15 a1 "java/lang/StringBuilder" := (f14.wr W15)
 obtain ⟨T21, h21, X21, e21, W21, st21⟩ := putFN X15 hx hZ hown (H 24 rfl) Via.refl e15 f19 f20 (Or.inl (H 25 rfl)) (H 6 rfl) (ty := .byte) (v' := (.int 0)) (by decide) rfl (by decide) (g := (own_top pre18)) rfl rfl (hb hby d3_19)
 have N21 := Fr.snoc X21 N15 pg1
 have zs22 : n0 ≤ h21.size := Nat.le_trans zs16 (Keep.of_wr W21).1
 have kc23 : Keep h0 h21 [a1] := kc17.wr W21 (Or.inl (List.mem_of_getElem? (i := 0) rfl))
 have fw21 : Fld Z h21 a1 "java/lang/AbstractStringBuilder" "coder" "B" (.int 0) := f19.same W21
 have pre24 : own_Go p e below S0 (T21.setTop (mkF m 38 #[vR a1, vI 2] [])) := by
  intro t kt
  refine pre18 t ?_
  refine st21 _ ?_
  refine XS.goto X21.here hx rfl (pc0 := 22) (pc' := 38) rfl (hb hby d3_22) (by decide) (by decide) ?_
  exact kt
 obtain ⟨fs, hr, hrun, hended, hW, hsame⟩ := X21.leave (v := none) (fun _ => rfl)
 refine ⟨_, _, fin _ (pre24 _ ?_), hrun, hended, _, _, rfl, ?_, ⟨_, rfl⟩, hW, hsame.mono (by decide) (by decide)⟩
 ·exact X21.returnOut hx Bd.returns (hb hby d3_38) hr
 have f25 : Exa Z h21 b6 "[B" := ((Ax6.wr W15).wr W21)
 have f26 : Arv Z h21 b6 k6 .byte (2 : Int32) [(.int 0), (.int 0)] (.int 0) := ((V6.other W15 (Ne.symm ne7)).other W21 (Ne.symm ne7))
 have f27 : Exa Z h21 a1 "java/lang/StringBuilder" := (f20.wr W21)
 have f28 : Fld Z h21 a1 "java/lang/AbstractStringBuilder" "value" "[B" (.ref b6) := (fw15.other W21 (Or.inr (slot_ne (Or.inl (H 23 rfl)) (Or.inl (H 25 rfl)) (by decide) (t := (.array .byte)) (t' := .byte) (by decide) (by decide))))
 have f29 : Fld Z h21 a1 "java/lang/AbstractStringBuilder" "count" "I" (.int 0) := (((pF3.ext E6).other W15 (Or.inr (slot_ne (Or.inl (H 56 rfl)) (Or.inl (H 23 rfl)) (by decide) (t := .int) (t' := (.array .byte)) (by decide) (by decide)))).other W21 (Or.inr (slot_ne (Or.inl (H 56 rfl)) (Or.inl (H 25 rfl)) (by decide) (t := .int) (t' := .byte) (by decide) (by decide))))
 ·show Qai2 Z a1 wC h0 n0 _ T21.heap _
  rw [e21]
  exact ⟨b6, k6, rfl, N21, kc23, sz9, f25, f26, f27, f28, fw21, f29⟩

theorem ef_si2 (m : MethodId) (x0 : Addr) : entryFrame m #[(.ref x0), (.int 2)] 2 = mkF m 0 #[vR x0, vI 2] [] := by first | (simp [entryFrame, mkF, argsToLocals, Value.category]; done) | rfl
def Qsi2 (Z : State) (a1 : Addr) (wC : Int32) (h0 : Heap) (n0 : Nat) (v : Option Value) (h : Heap) (L : List Loc) : Prop := ∃ b : Addr, ∃ kb : ClassId, v = none ∧ Fr n0 L ∧ Keep h0 h [a1] ∧ h0.size ≤ b ∧ Exa Z h b "[B" ∧ Arv Z h b kb .byte (2 : Int32) [(.int 0), (.int 0)] (.int 0) ∧ Exa Z h a1 "java/lang/StringBuilder" ∧ Fld Z h a1 "java/lang/AbstractStringBuilder" "value" "[B" (.ref b) ∧ Fld Z h a1 "java/lang/AbstractStringBuilder" "coder" "B" (.int 0) ∧ Fld Z h a1 "java/lang/AbstractStringBuilder" "count" "I" (.int 0)
set_option maxRecDepth 65536 in
set_option maxHeartbeats 40000000 in
theorem rmsi2 (l : Launch) (Z : State) (a0 : Array Value) (hw : ∀ d ∈ tables_1, d.before a0 Z = true) (ws : List Jvm.Cond) (a1 : Addr) (wC : Int32) (h0 : Heap) (n0 : Nat) (Z0 : n0 ≤ h0.size) (O0 : Old Z n0 h0) (qC : (own_SC Z wC)) (pE1 : Exa Z h0 a1 "java/lang/StringBuilder") (pF1 : Fld Z h0 a1 "java/lang/AbstractStringBuilder" "value" "[B" .null) (pF2 : Fld Z h0 a1 "java/lang/AbstractStringBuilder" "coder" "B" (.int 0)) (pF3 : Fld Z h0 a1 "java/lang/AbstractStringBuilder" "count" "I" (.int 0)) (pg1 : n0 ≤ a1) :
  MetFree l own_m20 (head1 (Jvm.Cond.code own_m20 jdk_67_method_2_code 2 none :: ws) (own_r 2 1 2 25)) (fun a U => a = #[(.ref a1), (.int 2)] ∧ Z.Warmed39 U.vm ∧ U.heap = h0) (fun _ _ _ _ _ => True) (fun _ U o U' => ∃ v L, o = .returned v ∧ Qsi2 Z a1 wC h0 n0 v U'.heap L ∧ FrameEnd U o U' L (own_r 2 1 2 25).cells (own_r 2 1 2 25).slots) := by
 refine MetFree.of_bodySF (plainFor_of_name pn_2) hisR ?_
 intro p e s m args below meth c s₁ Bd hml0 hP hK
 have H : ∀ (i : Nat) {d : Jvm.Cond}, tables_1[i]? = some d → d.before a0 Z = true := fun i _ h => hw _ (own_w i h)
 obtain ⟨rfl, hZ, hh⟩ := hP
 have hx := Bd.exec
 have hby := Bd.bytes
 have hml : c.maxLocals = 2 := hml0
 have hown0 := findClass_of_methodNamed Bd.named
 have hown : s.vm.findClass "java/lang/StringBuilder" = some m.cls := hown0
 have hnm := (name_of_methodNamed Bd.named Bd.method).1
 have X0 : Stand p l e (own_r 2 1 2 25) s m #[(.ref a1), (.int 2)] below meth c s₁ [] 0 0 := Stand.of_body Bd
 have e0 : s₁.heap = h0 := by rw [← hh, Bd.state]; rfl
 have N0 := Fr.nil n0
 obtain ⟨S0, hS0⟩ : ∃ z, z = s₁.setTop (entryFrame m #[(.ref a1), (.int 2)] 2) := ⟨_, rfl⟩
 have pre0 : own_Go p e below S0 (s₁.setTop (mkF m 0 #[vR a1, vI 2] [])) := fun t k => by rw [hS0]; exact castTop (ef_si2 m a1) k
 have fin : ∀ t, Steps p.tables e below S0 t → Steps p.tables e below (s₁.setTop (entryFrame m #[(.ref a1), (.int 2)] 2)) t := fun t k => by rw [hS0] at k; exact k
 have kc0 : Keep h0 h0 [a1] := Keep.refl _ _
 have pre1 : own_Go p e below S0 (s₁.setTop (mkF m 2 #[vR a1, vI 2] [(.int 2), (.ref a1)])) := by
  intro t kt
  refine pre0 t ?_
  refine XS.aloadN X0.here hx rfl (hb hby d2_0) rfl rfl ?_
  refine XS.iloadN X0.here hx rfl (hb hby d2_1) rfl ?_
  exact kt
 obtain ⟨_, _, ⟨T2, L2, k2, n2⟩, -, X2, ⟨Lc2, hQ2, l2, y2, z2⟩, st2⟩ := X0.specialBack hx (y := own_m4) rfl hown (mvT hZ (H 11 rfl)) (mvT hZ (H 12 rfl)) (mvT hZ (H 16 rfl)) (by decide) (backOf (W := 0) (rmai2 l Z a0 hw [] a1 wC h0 n0 Z0 O0 qC pE1 pF1 pF2 pF3 pg1) hZ (H 16 rfl) (H 15 rfl) (by decide) (by decide)) (g := (own_top pre1)) rfl (by rw [hml]; rfl) (Steps.refl _) (a := a1) (argsL := [(.int 2)]) (rest := []) (lenOf pd_4 rfl) rfl (by show 2 * 0 + _ ≤ _; exact Nat.le_of_eq rfl) (hb hby d2_2) (fun _ _ => ⟨rfl, e0, (by decide : 0 + 1 ≤ _), (by decide : 0 + 2 ≤ _)⟩)
 dsimp only [Pt.U, Pt.locs, Pt.cells, Pt.slots] at X2 l2 y2 z2 st2 hQ2
 subst l2 y2 z2
 obtain ⟨b3, kb4, rfl, Nq2, K2, g5, g6, g7, g8, g9, g10, g11⟩ := hQ2
 have N2 := Fr.app N0 Nq2
 have ne12 : a1 ≠ b3 := Nat.ne_of_lt (Nat.lt_of_lt_of_le pE1.lt g5)
 have ge13 : n0 ≤ b3 := Nat.le_trans Z0 g5
 have sz14 : h0.size ≤ b3 := Nat.le_trans kc0.1 g5
 have zs15 : n0 ≤ T2.heap.size := Nat.le_trans Z0 K2.1
 have kc16 : Keep h0 T2.heap [a1] := kc0.trans K2 (allS (Or.inl (List.mem_of_getElem? (i := 0) rfl)) all0)
 have pre17 : own_Go p e below S0 (T2.setTop (mkF m 5 #[vR a1, vI 2] [])) := by
  intro t kt
  refine pre1 t ?_
  refine st2.trans ?_
  show Steps p.tables e below (T2.setTop (mkF m 5 #[vR a1, vI 2] [])) _
  exact kt
 obtain ⟨fs, hr, hrun, hended, hW, hsame⟩ := X2.leave (v := none) (fun _ => rfl)
 refine ⟨_, _, fin _ (pre17 _ ?_), hrun, hended, _, _, rfl, ?_, ⟨_, rfl⟩, hW, hsame.mono (by decide) (by decide)⟩
 ·exact X2.returnOut hx Bd.returns (hb hby d2_5) hr
 ·show Qsi2 Z a1 wC h0 n0 _ T2.heap _
  exact ⟨b3, kb4, rfl, N2, kc16, sz14, g6, g7, g8, g9, g10, g11⟩

theorem ef_ai3 (m : MethodId) (x0 : Addr) : entryFrame m #[(.ref x0), (.int 3)] 2 = mkF m 0 #[vR x0, vI 3] [] := by first | (simp [entryFrame, mkF, argsToLocals, Value.category]; done) | rfl
def Qai3 (Z : State) (a1 : Addr) (wC : Int32) (h0 : Heap) (n0 : Nat) (v : Option Value) (h : Heap) (L : List Loc) : Prop := ∃ b : Addr, ∃ kb : ClassId, v = none ∧ Fr n0 L ∧ Keep h0 h [a1] ∧ h0.size ≤ b ∧ Exa Z h b "[B" ∧ Arv Z h b kb .byte (3 : Int32) [(.int 0), (.int 0), (.int 0)] (.int 0) ∧ Exa Z h a1 "java/lang/StringBuilder" ∧ Fld Z h a1 "java/lang/AbstractStringBuilder" "value" "[B" (.ref b) ∧ Fld Z h a1 "java/lang/AbstractStringBuilder" "coder" "B" (.int 0) ∧ Fld Z h a1 "java/lang/AbstractStringBuilder" "count" "I" (.int 0)
set_option maxRecDepth 65536 in
set_option maxHeartbeats 40000000 in
theorem rmai3 (l : Launch) (Z : State) (a0 : Array Value) (hw : ∀ d ∈ tables_1, d.before a0 Z = true) (ws : List Jvm.Cond) (a1 : Addr) (wC : Int32) (h0 : Heap) (n0 : Nat) (Z0 : n0 ≤ h0.size) (O0 : Old Z n0 h0) (qC : (own_SC Z wC)) (pE1 : Exa Z h0 a1 "java/lang/StringBuilder") (pF1 : Fld Z h0 a1 "java/lang/AbstractStringBuilder" "value" "[B" .null) (pF2 : Fld Z h0 a1 "java/lang/AbstractStringBuilder" "coder" "B" (.int 0)) (pF3 : Fld Z h0 a1 "java/lang/AbstractStringBuilder" "count" "I" (.int 0)) (pg1 : n0 ≤ a1) :
  MetFree l own_m4 (head1 (Jvm.Cond.code own_m4 jdk_68_method_2_code 2 none :: ws) (own_r 1 1 3 12)) (fun a U => a = #[(.ref a1), (.int 3)] ∧ Z.Warmed39 U.vm ∧ U.heap = h0) (fun _ _ _ _ _ => True) (fun _ U o U' => ∃ v L, o = .returned v ∧ Qai3 Z a1 wC h0 n0 v U'.heap L ∧ FrameEnd U o U' L (own_r 1 1 3 12).cells (own_r 1 1 3 12).slots) := by
 refine MetFree.of_bodySF (plainFor_of_name pn_3) hisR ?_
 intro p e s m args below meth c s₁ Bd hml0 hP hK
 have H : ∀ (i : Nat) {d : Jvm.Cond}, tables_1[i]? = some d → d.before a0 Z = true := fun i _ h => hw _ (own_w i h)
 obtain ⟨rfl, hZ, hh⟩ := hP
 have hx := Bd.exec
 have hby := Bd.bytes
 have hml : c.maxLocals = 2 := hml0
 have hown0 := findClass_of_methodNamed Bd.named
 have hown : s.vm.findClass "java/lang/AbstractStringBuilder" = some m.cls := hown0
 have hnm := (name_of_methodNamed Bd.named Bd.method).1
 have X0 : Stand p l e (own_r 1 1 3 12) s m #[(.ref a1), (.int 3)] below meth c s₁ [] 0 0 := Stand.of_body Bd
 have e0 : s₁.heap = h0 := by rw [← hh, Bd.state]; rfl
 have N0 := Fr.nil n0
 obtain ⟨S0, hS0⟩ : ∃ z, z = s₁.setTop (entryFrame m #[(.ref a1), (.int 3)] 2) := ⟨_, rfl⟩
 have pre0 : own_Go p e below S0 (s₁.setTop (mkF m 0 #[vR a1, vI 3] [])) := fun t k => by rw [hS0]; exact castTop (ef_ai3 m a1) k
 have fin : ∀ t, Steps p.tables e below S0 t → Steps p.tables e below (s₁.setTop (entryFrame m #[(.ref a1), (.int 3)] 2)) t := fun t k => by rw [hS0] at k; exact k
 have kc0 : Keep h0 h0 [a1] := Keep.refl _ _
 have pre1 : own_Go p e below S0 (s₁.setTop (mkF m 1 #[vR a1, vI 3] [(.ref a1)])) := by
  intro t kt
  refine pre0 t ?_
  refine XS.aloadN X0.here hx rfl (hb hby d3_0) rfl rfl ?_
  exact kt
 obtain ⟨T2, X2, e2, st2⟩ := initO X0 hx hZ hown (H 17 rfl) (H 18 rfl) (H 19 rfl) e0 (g := (own_top pre1)) rfl (by rw [hml]; rfl) rfl (hb hby d3_1) (by decide) (W := 0) (by show 2 * 0 + _ ≤ _; exact Nat.le_of_eq rfl) (by decide)
 have pre3 : own_Go p e below S0 (T2.setTop (mkF m 4 #[vR a1, vI 3] [])) := by
  intro t kt
  refine pre1 t ?_
  refine st2 _ ?_
  exact kt
 obtain ⟨T4, X4, e4, st4⟩ := getS2 X2 hx hZ hown (host := "") (Or.inl (H 20 rfl)) Via.refl e2 (qC.1.ext O0.2) (g := (own_top pre3)) rfl (hb hby d3_4)
 have pre5 : own_Go p e below S0 (T4.setTop (mkF m 12 #[vR a1, vI 3] [(.int 3), (.ref a1)])) := by
  intro t kt
  refine pre3 t ?_
  refine st4 _ ?_
  refine XS.ifNo X4.here hx rfl (hb hby d3_7) rfl ((if0 _ _).trans (feq qC.2).1) ?_
  refine XS.aloadN X4.here hx rfl (hb hby d3_10) rfl rfl ?_
  refine XS.iloadN X4.here hx rfl (hb hby d3_11) rfl ?_
  exact kt
 obtain ⟨T6, h6, k6, X6, e6, E6, A6, Ax6, st6⟩ := newPE X4 hx hZ (H 0 rfl) e4 (g := (own_top pre5)) rfl (hb hby d3_12) rfl (by decide) (cap := 3) (by decide) (by decide) (by decide) (by decide) (ad := "[B") (by decide)
 obtain ⟨b6, g6⟩ : ∃ z, z = h0.size := ⟨_, rfl⟩
 rw [← g6] at A6 Ax6 st6
 have ne7 : a1 ≠ b6 := Nat.ne_of_lt (Nat.lt_of_lt_of_le pE1.lt (Nat.le_of_eq g6.symm))
 have ge8 : n0 ≤ b6 := Nat.le_trans Z0 (Nat.le_of_eq g6.symm)
 have sz9 : h0.size ≤ b6 := Nat.le_trans kc0.1 (Nat.le_of_eq g6.symm)
 have zs10 : n0 ≤ h6.size := Nat.le_trans Z0 E6.1
 have kc11 : Keep h0 h6 [a1] := kc0.ext E6
 have V6 : Arv Z h6 b6 k6 .byte (3 : Int32) [(.int 0), (.int 0), (.int 0)] (.int 0) := (Arv.new A6 (by decide)).pad (pad_rep [] (.int 0) 3)
 have pre12 : own_Go p e below S0 (T6.setTop (mkF m 14 #[vR a1, vI 3] [(.ref b6), (.ref a1)])) := by
  intro t kt
  refine pre5 t ?_
  refine st6 _ ?_
  exact kt
 have f13 : Fld Z h6 a1 "java/lang/AbstractStringBuilder" "value" "[B" .null := (pF1.ext E6)
 have f14 : Exa Z h6 a1 "java/lang/StringBuilder" := (pE1.ext E6)
 obtain ⟨T15, h15, X15, e15, W15, st15⟩ := putF X6 hx hZ hown (host := "") (Or.inl (H 22 rfl)) Via.refl e6 f13 f14 (Or.inl (H 23 rfl)) (H 6 rfl) (ty := (.array .byte)) (by decide) rfl rfl (g := (own_top pre12)) rfl rfl (hb hby d3_14)
 have N15 := Fr.snoc X15 N0 pg1
 have zs16 : n0 ≤ h15.size := Nat.le_trans zs10 (Keep.of_wr W15).1
 have kc17 : Keep h0 h15 [a1] := kc11.wr W15 (Or.inl (List.mem_of_getElem? (i := 0) rfl))
 have fw15 : Fld Z h15 a1 "java/lang/AbstractStringBuilder" "value" "[B" (.ref b6) := f13.same W15
 have pre18 : own_Go p e below S0 (T15.setTop (mkF m 19 #[vR a1, vI 3] [(.int 0), (.ref a1)])) := by
  intro t kt
  refine pre12 t ?_
  refine st15 _ ?_
  refine XS.aloadN X15.here hx rfl (hb hby d3_17) rfl rfl ?_
  refine XS.iconst X15.here hx rfl (hb hby d3_18) ?_
  exact kt
 have f19 : Fld Z h15 a1 "java/lang/AbstractStringBuilder" "coder" "B" (.int 0) := ((pF2.ext E6).other W15 (Or.inr (slot_ne (Or.inl (H 25 rfl)) (Or.inl (H 23 rfl)) (by decide) (t := .byte) (t' := (.array .byte)) (by decide) (by decide))))
 have f20 : Exa Z h15 a1 "java/lang/StringBuilder" := (f14.wr W15)
 obtain ⟨T21, h21, X21, e21, W21, st21⟩ := putFN X15 hx hZ hown (H 24 rfl) Via.refl e15 f19 f20 (Or.inl (H 25 rfl)) (H 6 rfl) (ty := .byte) (v' := (.int 0)) (by decide) rfl (by decide) (g := (own_top pre18)) rfl rfl (hb hby d3_19)
 have N21 := Fr.snoc X21 N15 pg1
 have zs22 : n0 ≤ h21.size := Nat.le_trans zs16 (Keep.of_wr W21).1
 have kc23 : Keep h0 h21 [a1] := kc17.wr W21 (Or.inl (List.mem_of_getElem? (i := 0) rfl))
 have fw21 : Fld Z h21 a1 "java/lang/AbstractStringBuilder" "coder" "B" (.int 0) := f19.same W21
 have pre24 : own_Go p e below S0 (T21.setTop (mkF m 38 #[vR a1, vI 3] [])) := by
  intro t kt
  refine pre18 t ?_
  refine st21 _ ?_
  refine XS.goto X21.here hx rfl (pc0 := 22) (pc' := 38) rfl (hb hby d3_22) (by decide) (by decide) ?_
  exact kt
 obtain ⟨fs, hr, hrun, hended, hW, hsame⟩ := X21.leave (v := none) (fun _ => rfl)
 refine ⟨_, _, fin _ (pre24 _ ?_), hrun, hended, _, _, rfl, ?_, ⟨_, rfl⟩, hW, hsame.mono (by decide) (by decide)⟩
 ·exact X21.returnOut hx Bd.returns (hb hby d3_38) hr
 have f25 : Exa Z h21 b6 "[B" := ((Ax6.wr W15).wr W21)
 have f26 : Arv Z h21 b6 k6 .byte (3 : Int32) [(.int 0), (.int 0), (.int 0)] (.int 0) := ((V6.other W15 (Ne.symm ne7)).other W21 (Ne.symm ne7))
 have f27 : Exa Z h21 a1 "java/lang/StringBuilder" := (f20.wr W21)
 have f28 : Fld Z h21 a1 "java/lang/AbstractStringBuilder" "value" "[B" (.ref b6) := (fw15.other W21 (Or.inr (slot_ne (Or.inl (H 23 rfl)) (Or.inl (H 25 rfl)) (by decide) (t := (.array .byte)) (t' := .byte) (by decide) (by decide))))
 have f29 : Fld Z h21 a1 "java/lang/AbstractStringBuilder" "count" "I" (.int 0) := (((pF3.ext E6).other W15 (Or.inr (slot_ne (Or.inl (H 56 rfl)) (Or.inl (H 23 rfl)) (by decide) (t := .int) (t' := (.array .byte)) (by decide) (by decide)))).other W21 (Or.inr (slot_ne (Or.inl (H 56 rfl)) (Or.inl (H 25 rfl)) (by decide) (t := .int) (t' := .byte) (by decide) (by decide))))
 ·show Qai3 Z a1 wC h0 n0 _ T21.heap _
  rw [e21]
  exact ⟨b6, k6, rfl, N21, kc23, sz9, f25, f26, f27, f28, fw21, f29⟩

theorem ef_si3 (m : MethodId) (x0 : Addr) : entryFrame m #[(.ref x0), (.int 3)] 2 = mkF m 0 #[vR x0, vI 3] [] := by first | (simp [entryFrame, mkF, argsToLocals, Value.category]; done) | rfl
def Qsi3 (Z : State) (a1 : Addr) (wC : Int32) (h0 : Heap) (n0 : Nat) (v : Option Value) (h : Heap) (L : List Loc) : Prop := ∃ b : Addr, ∃ kb : ClassId, v = none ∧ Fr n0 L ∧ Keep h0 h [a1] ∧ h0.size ≤ b ∧ Exa Z h b "[B" ∧ Arv Z h b kb .byte (3 : Int32) [(.int 0), (.int 0), (.int 0)] (.int 0) ∧ Exa Z h a1 "java/lang/StringBuilder" ∧ Fld Z h a1 "java/lang/AbstractStringBuilder" "value" "[B" (.ref b) ∧ Fld Z h a1 "java/lang/AbstractStringBuilder" "coder" "B" (.int 0) ∧ Fld Z h a1 "java/lang/AbstractStringBuilder" "count" "I" (.int 0)
set_option maxRecDepth 65536 in
set_option maxHeartbeats 40000000 in
theorem rmsi3 (l : Launch) (Z : State) (a0 : Array Value) (hw : ∀ d ∈ tables_1, d.before a0 Z = true) (ws : List Jvm.Cond) (a1 : Addr) (wC : Int32) (h0 : Heap) (n0 : Nat) (Z0 : n0 ≤ h0.size) (O0 : Old Z n0 h0) (qC : (own_SC Z wC)) (pE1 : Exa Z h0 a1 "java/lang/StringBuilder") (pF1 : Fld Z h0 a1 "java/lang/AbstractStringBuilder" "value" "[B" .null) (pF2 : Fld Z h0 a1 "java/lang/AbstractStringBuilder" "coder" "B" (.int 0)) (pF3 : Fld Z h0 a1 "java/lang/AbstractStringBuilder" "count" "I" (.int 0)) (pg1 : n0 ≤ a1) :
  MetFree l own_m20 (head1 (Jvm.Cond.code own_m20 jdk_67_method_2_code 2 none :: ws) (own_r 2 1 3 25)) (fun a U => a = #[(.ref a1), (.int 3)] ∧ Z.Warmed39 U.vm ∧ U.heap = h0) (fun _ _ _ _ _ => True) (fun _ U o U' => ∃ v L, o = .returned v ∧ Qsi3 Z a1 wC h0 n0 v U'.heap L ∧ FrameEnd U o U' L (own_r 2 1 3 25).cells (own_r 2 1 3 25).slots) := by
 refine MetFree.of_bodySF (plainFor_of_name pn_2) hisR ?_
 intro p e s m args below meth c s₁ Bd hml0 hP hK
 have H : ∀ (i : Nat) {d : Jvm.Cond}, tables_1[i]? = some d → d.before a0 Z = true := fun i _ h => hw _ (own_w i h)
 obtain ⟨rfl, hZ, hh⟩ := hP
 have hx := Bd.exec
 have hby := Bd.bytes
 have hml : c.maxLocals = 2 := hml0
 have hown0 := findClass_of_methodNamed Bd.named
 have hown : s.vm.findClass "java/lang/StringBuilder" = some m.cls := hown0
 have hnm := (name_of_methodNamed Bd.named Bd.method).1
 have X0 : Stand p l e (own_r 2 1 3 25) s m #[(.ref a1), (.int 3)] below meth c s₁ [] 0 0 := Stand.of_body Bd
 have e0 : s₁.heap = h0 := by rw [← hh, Bd.state]; rfl
 have N0 := Fr.nil n0
 obtain ⟨S0, hS0⟩ : ∃ z, z = s₁.setTop (entryFrame m #[(.ref a1), (.int 3)] 2) := ⟨_, rfl⟩
 have pre0 : own_Go p e below S0 (s₁.setTop (mkF m 0 #[vR a1, vI 3] [])) := fun t k => by rw [hS0]; exact castTop (ef_si3 m a1) k
 have fin : ∀ t, Steps p.tables e below S0 t → Steps p.tables e below (s₁.setTop (entryFrame m #[(.ref a1), (.int 3)] 2)) t := fun t k => by rw [hS0] at k; exact k
 have kc0 : Keep h0 h0 [a1] := Keep.refl _ _
 have pre1 : own_Go p e below S0 (s₁.setTop (mkF m 2 #[vR a1, vI 3] [(.int 3), (.ref a1)])) := by
  intro t kt
  refine pre0 t ?_
  refine XS.aloadN X0.here hx rfl (hb hby d2_0) rfl rfl ?_
  refine XS.iloadN X0.here hx rfl (hb hby d2_1) rfl ?_
  exact kt
 obtain ⟨_, _, ⟨T2, L2, k2, n2⟩, -, X2, ⟨Lc2, hQ2, l2, y2, z2⟩, st2⟩ := X0.specialBack hx (y := own_m4) rfl hown (mvT hZ (H 11 rfl)) (mvT hZ (H 12 rfl)) (mvT hZ (H 16 rfl)) (by decide) (backOf (W := 0) (rmai3 l Z a0 hw [] a1 wC h0 n0 Z0 O0 qC pE1 pF1 pF2 pF3 pg1) hZ (H 16 rfl) (H 15 rfl) (by decide) (by decide)) (g := (own_top pre1)) rfl (by rw [hml]; rfl) (Steps.refl _) (a := a1) (argsL := [(.int 3)]) (rest := []) (lenOf pd_4 rfl) rfl (by show 2 * 0 + _ ≤ _; exact Nat.le_of_eq rfl) (hb hby d2_2) (fun _ _ => ⟨rfl, e0, (by decide : 0 + 1 ≤ _), (by decide : 0 + 3 ≤ _)⟩)
 dsimp only [Pt.U, Pt.locs, Pt.cells, Pt.slots] at X2 l2 y2 z2 st2 hQ2
 subst l2 y2 z2
 obtain ⟨b3, kb4, rfl, Nq2, K2, g5, g6, g7, g8, g9, g10, g11⟩ := hQ2
 have N2 := Fr.app N0 Nq2
 have ne12 : a1 ≠ b3 := Nat.ne_of_lt (Nat.lt_of_lt_of_le pE1.lt g5)
 have ge13 : n0 ≤ b3 := Nat.le_trans Z0 g5
 have sz14 : h0.size ≤ b3 := Nat.le_trans kc0.1 g5
 have zs15 : n0 ≤ T2.heap.size := Nat.le_trans Z0 K2.1
 have kc16 : Keep h0 T2.heap [a1] := kc0.trans K2 (allS (Or.inl (List.mem_of_getElem? (i := 0) rfl)) all0)
 have pre17 : own_Go p e below S0 (T2.setTop (mkF m 5 #[vR a1, vI 3] [])) := by
  intro t kt
  refine pre1 t ?_
  refine st2.trans ?_
  show Steps p.tables e below (T2.setTop (mkF m 5 #[vR a1, vI 3] [])) _
  exact kt
 obtain ⟨fs, hr, hrun, hended, hW, hsame⟩ := X2.leave (v := none) (fun _ => rfl)
 refine ⟨_, _, fin _ (pre17 _ ?_), hrun, hended, _, _, rfl, ?_, ⟨_, rfl⟩, hW, hsame.mono (by decide) (by decide)⟩
 ·exact X2.returnOut hx Bd.returns (hb hby d2_5) hr
 ·show Qsi3 Z a1 wC h0 n0 _ T2.heap _
  exact ⟨b3, kb4, rfl, N2, kc16, sz14, g6, g7, g8, g9, g10, g11⟩

theorem d11_0 : decode jdk_68_method_68_code 0 = .ok (.getstatic 18, 3) := by decide +kernel
theorem d11_3 : decode jdk_68_method_68_code 3 = .ok (.ifCond .eq 14, 3) := by decide +kernel
theorem d11_6 : decode jdk_68_method_68_code 6 = .ok (.aload_n 0, 1) := by decide +kernel
theorem d11_7 : decode jdk_68_method_68_code 7 = .ok (.getfield 22, 3) := by decide +kernel
theorem d11_10 : decode jdk_68_method_68_code 10 = .ok (.ifCond .ne 7, 3) := by decide +kernel
theorem d11_13 : decode jdk_68_method_68_code 13 = .ok (.iconst 1, 1) := by decide +kernel
theorem d11_14 : decode jdk_68_method_68_code 14 = .ok (.goto 4, 3) := by decide +kernel
theorem d11_18 : decode jdk_68_method_68_code 18 = .ok (.ireturn, 1) := by decide +kernel
theorem pn_11 : plainName "java/lang/AbstractStringBuilder" = true := by first | (simp [plainName, overriddenIn]; done) | decide +kernel
theorem ef_asl (m : MethodId) (x0 : Addr) : entryFrame m #[(.ref x0)] 1 = mkF m 0 #[vR x0] [] := by first | (simp [entryFrame, mkF, argsToLocals, Value.category]; done) | rfl
def Qasl (Z : State) (a1 : Addr) (wC : Int32) (h0 : Heap) (n0 : Nat) (v : Option Value) (h : Heap) (L : List Loc) : Prop := v = (some (.int 1)) ∧ Fr n0 L ∧ h = h0
set_option maxRecDepth 65536 in
set_option maxHeartbeats 40000000 in
theorem rmasl (l : Launch) (Z : State) (a0 : Array Value) (hw : ∀ d ∈ tables_1, d.before a0 Z = true) (ws : List Jvm.Cond) (a1 : Addr) (wC : Int32) (h0 : Heap) (n0 : Nat) (Z0 : n0 ≤ h0.size) (O0 : Old Z n0 h0) (qC : (own_SC Z wC)) (pF1 : Fld Z h0 a1 "java/lang/AbstractStringBuilder" "coder" "B" (.int 0)) :
  MetFree l own_m8 (head1 (Jvm.Cond.code own_m8 jdk_68_method_68_code 1 (some .boolean) :: ws) (own_r 0 0 0 0)) (fun a U => a = #[(.ref a1)] ∧ Z.Warmed39 U.vm ∧ U.heap = h0) (fun _ _ _ _ _ => True) (fun _ U o U' => ∃ v L, o = .returned v ∧ Qasl Z a1 wC h0 n0 v U'.heap L ∧ FrameEnd U o U' L (own_r 0 0 0 0).cells (own_r 0 0 0 0).slots) := by
 refine MetFree.of_bodySF (plainFor_of_name pn_11) hisR ?_
 intro p e s m args below meth c s₁ Bd hml0 hP hK
 have H : ∀ (i : Nat) {d : Jvm.Cond}, tables_1[i]? = some d → d.before a0 Z = true := fun i _ h => hw _ (own_w i h)
 obtain ⟨rfl, hZ, hh⟩ := hP
 have hx := Bd.exec
 have hby := Bd.bytes
 have hml : c.maxLocals = 1 := hml0
 have hown0 := findClass_of_methodNamed Bd.named
 have hown : s.vm.findClass "java/lang/AbstractStringBuilder" = some m.cls := hown0
 have hnm := (name_of_methodNamed Bd.named Bd.method).1
 have X0 : Stand p l e (own_r 0 0 0 0) s m #[(.ref a1)] below meth c s₁ [] 0 0 := Stand.of_body Bd
 have e0 : s₁.heap = h0 := by rw [← hh, Bd.state]; rfl
 have N0 := Fr.nil n0
 obtain ⟨S0, hS0⟩ : ∃ z, z = s₁.setTop (entryFrame m #[(.ref a1)] 1) := ⟨_, rfl⟩
 have pre0 : own_Go p e below S0 (s₁.setTop (mkF m 0 #[vR a1] [])) := fun t k => by rw [hS0]; exact castTop (ef_asl m a1) k
 have fin : ∀ t, Steps p.tables e below S0 t → Steps p.tables e below (s₁.setTop (entryFrame m #[(.ref a1)] 1)) t := fun t k => by rw [hS0] at k; exact k
 obtain ⟨T1, X1, e1, st1⟩ := getS2 X0 hx hZ hown (host := "") (Or.inl (H 20 rfl)) Via.refl e0 (qC.1.ext O0.2) (g := (own_top pre0)) rfl (hb hby d11_0)
 have pre2 : own_Go p e below S0 (T1.setTop (mkF m 7 #[vR a1] [(.ref a1)])) := by
  intro t kt
  refine pre0 t ?_
  refine st1 _ ?_
  refine XS.ifNo X1.here hx rfl (hb hby d11_3) rfl ((if0 _ _).trans (feq qC.2).1) ?_
  refine XS.aloadN X1.here hx rfl (hb hby d11_6) rfl rfl ?_
  exact kt
 obtain ⟨T3, X3, e3, st3⟩ := getF X1 hx hZ hown (host := "") (Or.inl (H 24 rfl)) Via.refl e1 pF1 (g := (own_top pre2)) rfl rfl (hb hby d11_7)
 have pre4 : own_Go p e below S0 (T3.setTop (mkF m 18 #[vR a1] [(.int 1)])) := by
  intro t kt
  refine pre2 t ?_
  refine st3 _ ?_
  refine XS.ifNo X3.here hx rfl (hb hby d11_10) rfl ((if0 _ _).trans (teq (by decide : (0 : Int32) = (0 : Int32))).2) ?_
  refine XS.iconst X3.here hx rfl (hb hby d11_13) ?_
  refine XS.goto X3.here hx rfl (pc0 := 14) (pc' := 18) rfl (hb hby d11_14) (by decide) (by decide) ?_
  exact kt
 obtain ⟨fs, hr, hrun, hended, hW, hsame⟩ := X3.leave (v := some (.int 1)) (fun h => by rw [Bd.returns] at h; cases h)
 refine ⟨_, _, fin _ (pre4 _ ?_), hrun, hended, _, _, rfl, ?_, ⟨_, rfl⟩, hW, hsame.mono (by decide) (by decide)⟩
 ·exact retN X3 hx (t := .boolean) Bd.returns (by simp) (hb hby d11_18) hr
 ·show Qasl Z a1 wC h0 n0 _ T3.heap _
  rw [e3]
  exact ⟨rfl, N0, rfl⟩

theorem d18_0 : decode jdk_43_method_3_code 0 = .ok (.iload_n 0, 1) := by decide +kernel
theorem d18_1 : decode jdk_43_method_3_code 1 = .ok (.sipush 255, 3) := by decide +kernel
theorem d18_4 : decode jdk_43_method_3_code 4 = .ok (.if_icmp .gt 7, 3) := by decide +kernel
theorem d18_7 : decode jdk_43_method_3_code 7 = .ok (.iconst 1, 1) := by decide +kernel
theorem d18_8 : decode jdk_43_method_3_code 8 = .ok (.goto 4, 3) := by decide +kernel
theorem d18_11 : decode jdk_43_method_3_code 11 = .ok (.iconst 0, 1) := by decide +kernel
theorem d18_12 : decode jdk_43_method_3_code 12 = .ok (.ireturn, 1) := by decide +kernel
theorem pn_18 : plainName "java/lang/StringLatin1" = true := by first | (simp [plainName, overriddenIn]; done) | decide +kernel
theorem ef_18 (m : MethodId) (x0 : Int32) : entryFrame m #[(.int x0)] 1 = mkF m 0 #[vI x0] [] := by first | (simp [entryFrame, mkF, argsToLocals, Value.category]; done) | rfl
def own_can (p1 : Int32) : Int32 := (if (255 : Int32) < p1 then (0 : Int32) else (1 : Int32))
def Q18 (Z : State) (p1 : Int32) (h0 : Heap) (n0 : Nat) (v : Option Value) (h : Heap) (L : List Loc) : Prop := v = (some (.int (own_can p1))) ∧ Fr n0 L ∧ h = h0
set_option maxRecDepth 65536 in
set_option maxHeartbeats 40000000 in
theorem rm18 (l : Launch) (Z : State) (a0 : Array Value) (hw : ∀ d ∈ tables_1, d.before a0 Z = true) (ws : List Jvm.Cond) (p1 : Int32) (h0 : Heap) (n0 : Nat) (Z0 : n0 ≤ h0.size) :
  MetFree l own_m24 (head1 (Jvm.Cond.code own_m24 jdk_43_method_3_code 1 (some .boolean) :: ws) (own_r 0 0 0 0)) (fun a U => a = #[(.int p1)] ∧ Z.Warmed39 U.vm ∧ U.heap = h0) (fun _ _ _ _ _ => True) (fun _ U o U' => ∃ v L, o = .returned v ∧ Q18 Z p1 h0 n0 v U'.heap L ∧ FrameEnd U o U' L (own_r 0 0 0 0).cells (own_r 0 0 0 0).slots) := by
 refine MetFree.of_bodySF (plainFor_of_name pn_18) hisR ?_
 intro p e s m args below meth c s₁ Bd hml0 hP hK
 have H : ∀ (i : Nat) {d : Jvm.Cond}, tables_1[i]? = some d → d.before a0 Z = true := fun i _ h => hw _ (own_w i h)
 obtain ⟨rfl, hZ, hh⟩ := hP
 have hx := Bd.exec
 have hby := Bd.bytes
 have hml : c.maxLocals = 1 := hml0
 have hown0 := findClass_of_methodNamed Bd.named
 have hown : s.vm.findClass "java/lang/StringLatin1" = some m.cls := hown0
 have hnm := (name_of_methodNamed Bd.named Bd.method).1
 have X0 : Stand p l e (own_r 0 0 0 0) s m #[(.int p1)] below meth c s₁ [] 0 0 := Stand.of_body Bd
 have e0 : s₁.heap = h0 := by rw [← hh, Bd.state]; rfl
 have N0 := Fr.nil n0
 obtain ⟨S0, hS0⟩ : ∃ z, z = s₁.setTop (entryFrame m #[(.int p1)] 1) := ⟨_, rfl⟩
 have pre0 : own_Go p e below S0 (s₁.setTop (mkF m 0 #[vI p1] [])) := fun t k => by rw [hS0]; exact castTop (ef_18 m p1) k
 have fin : ∀ t, Steps p.tables e below S0 t → Steps p.tables e below (s₁.setTop (entryFrame m #[(.int p1)] 1)) t := fun t k => by rw [hS0] at k; exact k
 have pre2 : own_Go p e below S0 (s₁.setTop (mkF m 4 #[vI p1] [(.int 255), (.int p1)])) := by
  intro t kt
  refine pre0 t ?_
  refine XS.iloadN X0.here hx rfl (hb hby d18_0) rfl ?_
  refine XS.sipush X0.here hx rfl (hb hby d18_1) ?_
  exact kt
 by_cases hc1 : (255 : Int32) < p1
 ·have pre3 : own_Go p e below S0 (s₁.setTop (mkF m 12 #[vI p1] [(.int 0)])) := by
   intro t kt
   refine pre2 t ?_
   refine XS.icmpYes X0.here hx rfl (pc0 := 4) (pc' := 11) rfl (hb hby d18_4) rfl (tlt hc1).2.2.1 (by decide) (by decide) ?_
   refine XS.iconst X0.here hx rfl (hb hby d18_11) ?_
   exact kt
  obtain ⟨fs, hr, hrun, hended, hW, hsame⟩ := X0.leave (v := some (.int 0)) (fun h => by rw [Bd.returns] at h; cases h)
  refine ⟨_, _, fin _ (pre3 _ ?_), hrun, hended, _, _, rfl, ?_, ⟨_, rfl⟩, hW, hsame.mono (by decide) (by decide)⟩
  ·exact retN X0 hx (t := .boolean) Bd.returns (by simp) (hb hby d18_12) hr
  ·show Q18 Z p1 h0 n0 _ s₁.heap _
   rw [e0]
   exact ⟨(by show some _ = some _; rw [own_can, if_pos hc1]), N0, rfl⟩
 ·have pre4 : own_Go p e below S0 (s₁.setTop (mkF m 12 #[vI p1] [(.int 1)])) := by
   intro t kt
   refine pre2 t ?_
   refine XS.icmpNo X0.here hx rfl (hb hby d18_4) rfl (flt hc1).2.2.1 ?_
   refine XS.iconst X0.here hx rfl (hb hby d18_7) ?_
   refine XS.goto X0.here hx rfl (pc0 := 8) (pc' := 12) rfl (hb hby d18_8) (by decide) (by decide) ?_
   exact kt
  obtain ⟨fs, hr, hrun, hended, hW, hsame⟩ := X0.leave (v := some (.int 1)) (fun h => by rw [Bd.returns] at h; cases h)
  refine ⟨_, _, fin _ (pre4 _ ?_), hrun, hended, _, _, rfl, ?_, ⟨_, rfl⟩, hW, hsame.mono (by decide) (by decide)⟩
  ·exact retN X0 hx (t := .boolean) Bd.returns (by simp) (hb hby d18_12) hr
  ·show Q18 Z p1 h0 n0 _ s₁.heap _
   rw [e0]
   exact ⟨(by show some _ = some _; rw [own_can, if_neg hc1]), N0, rfl⟩

theorem d17_0 : decode jdk_68_method_9_code 0 = .ok (.aload_n 0, 1) := by decide +kernel
theorem d17_1 : decode jdk_68_method_9_code 1 = .ok (.getfield 15, 3) := by decide +kernel
theorem d17_4 : decode jdk_68_method_9_code 4 = .ok (.arraylength, 1) := by decide +kernel
theorem d17_5 : decode jdk_68_method_9_code 5 = .ok (.aload_n 0, 1) := by decide +kernel
theorem d17_6 : decode jdk_68_method_9_code 6 = .ok (.getfield 22, 3) := by decide +kernel
theorem d17_9 : decode jdk_68_method_9_code 9 = .ok (.ishr, 1) := by decide +kernel
theorem d17_10 : decode jdk_68_method_9_code 10 = .ok (.istore_n 2, 1) := by decide +kernel
theorem d17_11 : decode jdk_68_method_9_code 11 = .ok (.iload_n 1, 1) := by decide +kernel
theorem d17_12 : decode jdk_68_method_9_code 12 = .ok (.iload_n 2, 1) := by decide +kernel
theorem d17_13 : decode jdk_68_method_9_code 13 = .ok (.isub, 1) := by decide +kernel
theorem d17_14 : decode jdk_68_method_9_code 14 = .ok (.ifCond .le 24, 3) := by decide +kernel
theorem d17_38 : decode jdk_68_method_9_code 38 = .ok (.return_, 1) := by decide +kernel
theorem pn_17 : plainName "java/lang/AbstractStringBuilder" = true := by first | (simp [plainName, overriddenIn]; done) | decide +kernel
theorem ef_ens0 (m : MethodId) (x0 : Addr) (x1 : Int32) : entryFrame m #[(.ref x0), (.int x1)] 3 = mkF m 0 #[vR x0, vI x1, .unset] [] := by first | (simp [entryFrame, mkF, argsToLocals, Value.category]; done) | rfl
def Qens0 (Z : State) (a1 : Addr) (p2 : Int32) (va : Addr) (kv : ClassId) (z1 : Int32) (vs : List Value) (h0 : Heap) (n0 : Nat) (v : Option Value) (h : Heap) (L : List Loc) : Prop := v = none ∧ Fr n0 L ∧ h = h0
set_option maxRecDepth 65536 in
set_option maxHeartbeats 40000000 in
theorem rmens0 (l : Launch) (Z : State) (a0 : Array Value) (hw : ∀ d ∈ tables_1, d.before a0 Z = true) (ws : List Jvm.Cond) (a1 : Addr) (p2 : Int32) (va : Addr) (kv : ClassId) (z1 : Int32) (vs : List Value) (h0 : Heap) (n0 : Nat) (Z0 : n0 ≤ h0.size) (q0_ : Fld Z h0 a1 "java/lang/AbstractStringBuilder" "value" "[B" (.ref va)) (q1_ : Fld Z h0 a1 "java/lang/AbstractStringBuilder" "coder" "B" (.int 0)) (q2_ : Arv Z h0 va kv .byte z1 vs (.int 0)) (hle : (¬ (0 : Int32) < (p2 - (z1 >>> ((0 : Int32) &&& 31))))) :
  MetFree l own_m6 (head1 (Jvm.Cond.code own_m6 jdk_68_method_9_code 3 none :: ws) (own_r 0 0 0 0)) (fun a U => a = #[(.ref a1), (.int p2)] ∧ Z.Warmed39 U.vm ∧ U.heap = h0) (fun _ _ _ _ _ => True) (fun _ U o U' => ∃ v L, o = .returned v ∧ Qens0 Z a1 p2 va kv z1 vs h0 n0 v U'.heap L ∧ FrameEnd U o U' L (own_r 0 0 0 0).cells (own_r 0 0 0 0).slots) := by
 refine MetFree.of_bodySF (plainFor_of_name pn_17) hisR ?_
 intro p e s m args below meth c s₁ Bd hml0 hP hK
 have H : ∀ (i : Nat) {d : Jvm.Cond}, tables_1[i]? = some d → d.before a0 Z = true := fun i _ h => hw _ (own_w i h)
 obtain ⟨rfl, hZ, hh⟩ := hP
 have hx := Bd.exec
 have hby := Bd.bytes
 have hml : c.maxLocals = 3 := hml0
 have hown0 := findClass_of_methodNamed Bd.named
 have hown : s.vm.findClass "java/lang/AbstractStringBuilder" = some m.cls := hown0
 have hnm := (name_of_methodNamed Bd.named Bd.method).1
 have X0 : Stand p l e (own_r 0 0 0 0) s m #[(.ref a1), (.int p2)] below meth c s₁ [] 0 0 := Stand.of_body Bd
 have e0 : s₁.heap = h0 := by rw [← hh, Bd.state]; rfl
 have N0 := Fr.nil n0
 obtain ⟨S0, hS0⟩ : ∃ z, z = s₁.setTop (entryFrame m #[(.ref a1), (.int p2)] 3) := ⟨_, rfl⟩
 have pre0 : own_Go p e below S0 (s₁.setTop (mkF m 0 #[vR a1, vI p2, .unset] [])) := fun t k => by rw [hS0]; exact castTop (ef_ens0 m a1 p2) k
 have fin : ∀ t, Steps p.tables e below S0 t → Steps p.tables e below (s₁.setTop (entryFrame m #[(.ref a1), (.int p2)] 3)) t := fun t k => by rw [hS0] at k; exact k
 have pre1 : own_Go p e below S0 (s₁.setTop (mkF m 1 #[vR a1, vI p2, .unset] [(.ref a1)])) := by
  intro t kt
  refine pre0 t ?_
  refine XS.aloadN X0.here hx rfl (hb hby d17_0) rfl rfl ?_
  exact kt
 obtain ⟨T2, X2, e2, st2⟩ := getF X0 hx hZ hown (host := "") (Or.inl (H 22 rfl)) Via.refl e0 q0_ (g := (own_top pre1)) rfl rfl (hb hby d17_1)
 have pre3 : own_Go p e below S0 (T2.setTop (mkF m 4 #[vR a1, vI p2, .unset] [(.ref va)])) := by
  intro t kt
  refine pre1 t ?_
  refine st2 _ ?_
  exact kt
 obtain ⟨cl4, Ar4, -, Sz4, Ng4, -, -⟩ := id q2_
 have pre5 : own_Go p e below S0 (T2.setTop (mkF m 6 #[vR a1, vI p2, .unset] [(.ref a1), (.int z1)])) := by
  intro t kt
  refine pre3 t ?_
  refine X2.arraylength hx (by rw [e2]; exact Ar4.1) (State.isArrayOf_alike hZ.alike Ar4.2.1) (g := (own_top pre3)) rfl rfl (hb hby d17_4) _ ?_
  rw [len_of Sz4 Ng4]
  show Steps p.tables e below (T2.setTop (mkF m 5 #[vR a1, vI p2, .unset] [(.int z1)])) _
  refine XS.aloadN X2.here hx rfl (hb hby d17_5) rfl rfl ?_
  exact kt
 obtain ⟨T6, X6, e6, st6⟩ := getF X2 hx hZ hown (host := "") (Or.inl (H 24 rfl)) Via.refl e2 q1_ (g := (own_top pre5)) rfl rfl (hb hby d17_6)
 have pre7 : own_Go p e below S0 (T6.setTop (mkF m 38 #[vR a1, vI p2, vI (z1 >>> ((0 : Int32) &&& 31))] [])) := by
  intro t kt
  refine pre5 t ?_
  refine st6 _ ?_
  refine XS.ishr X6.here hx rfl (hb hby d17_9) rfl ?_
  refine XS.istoreN X6.here hx rfl (hb hby d17_10) rfl (l' := #[vR a1, vI p2, vI (z1 >>> ((0 : Int32) &&& 31))]) rfl ?_
  refine XS.iloadN X6.here hx rfl (hb hby d17_11) rfl ?_
  refine XS.iloadN X6.here hx rfl (hb hby d17_12) rfl ?_
  refine XS.isub X6.here hx rfl (hb hby d17_13) rfl ?_
  refine XS.ifYes X6.here hx rfl (pc0 := 14) (pc' := 38) rfl (hb hby d17_14) rfl ((if0 _ _).trans (flt hle).2.2.2) (by decide) (by decide) ?_
  exact kt
 obtain ⟨fs, hr, hrun, hended, hW, hsame⟩ := X6.leave (v := none) (fun _ => rfl)
 refine ⟨_, _, fin _ (pre7 _ ?_), hrun, hended, _, _, rfl, ?_, ⟨_, rfl⟩, hW, hsame.mono (by decide) (by decide)⟩
 ·exact X6.returnOut hx Bd.returns (hb hby d17_38) hr
 ·show Qens0 Z a1 p2 va kv z1 vs h0 n0 _ T6.heap _
  rw [e6]
  exact ⟨rfl, N0, rfl⟩

theorem d17_17 : decode jdk_68_method_9_code 17 = .ok (.aload_n 0, 1) := by decide +kernel
theorem d17_18 : decode jdk_68_method_9_code 18 = .ok (.aload_n 0, 1) := by decide +kernel
theorem d17_19 : decode jdk_68_method_9_code 19 = .ok (.getfield 15, 3) := by decide +kernel
theorem d17_22 : decode jdk_68_method_9_code 22 = .ok (.aload_n 0, 1) := by decide +kernel
theorem d17_23 : decode jdk_68_method_9_code 23 = .ok (.iload_n 1, 1) := by decide +kernel
theorem d17_24 : decode jdk_68_method_9_code 24 = .ok (.invokevirtual 104, 3) := by decide +kernel
theorem d17_27 : decode jdk_68_method_9_code 27 = .ok (.aload_n 0, 1) := by decide +kernel
theorem d17_28 : decode jdk_68_method_9_code 28 = .ok (.getfield 22, 3) := by decide +kernel
theorem d17_31 : decode jdk_68_method_9_code 31 = .ok (.ishl, 1) := by decide +kernel
theorem d17_32 : decode jdk_68_method_9_code 32 = .ok (.invokestatic 108, 3) := by decide +kernel
theorem d17_35 : decode jdk_68_method_9_code 35 = .ok (.putfield 15, 3) := by decide +kernel
theorem pd_5 : parseMethodDescriptor "(I)I" = some ⟨[.int], some .int⟩ := by decide +kernel
theorem pd_6 : parseMethodDescriptor "([BI)[B" = some ⟨[(.array .byte), .int], some (.array .byte)⟩ := by decide +kernel
theorem ef_ensG1 (m : MethodId) (x0 : Addr) : entryFrame m #[(.ref x0), (.int 2)] 3 = mkF m 0 #[vR x0, vI 2, .unset] [] := by first | (simp [entryFrame, mkF, argsToLocals, Value.category]; done) | rfl
def QensG1 (Z : State) (a1 : Addr) (va : Addr) (kv : ClassId) (v0 : Value) (h0 : Heap) (n0 : Nat) (v : Option Value) (h : Heap) (L : List Loc) : Prop := ∃ b : Addr, ∃ kb : ClassId, v = none ∧ Fr n0 L ∧ Keep h0 h [a1] ∧ h0.size ≤ b ∧ Exa Z h b "[B" ∧ Arv Z h b kb .byte (4 : Int32) [v0, (.int 0), (.int 0), (.int 0)] (.int 0) ∧ Exa Z h a1 "java/lang/StringBuilder" ∧ Fld Z h a1 "java/lang/AbstractStringBuilder" "value" "[B" (.ref b) ∧ Fld Z h a1 "java/lang/AbstractStringBuilder" "coder" "B" (.int 0) ∧ Fld Z h a1 "java/lang/AbstractStringBuilder" "count" "I" (.int 1)
set_option maxRecDepth 65536 in
set_option maxHeartbeats 40000000 in
theorem rmensG1 (l : Launch) (Z : State) (a0 : Array Value) (hw : ∀ d ∈ tables_1, d.before a0 Z = true) (ws : List Jvm.Cond) (a1 : Addr) (va : Addr) (kv : ClassId) (v0 : Value) (h0 : Heap) (n0 : Nat) (Z0 : n0 ≤ h0.size) (q0_ : Exa Z h0 a1 "java/lang/StringBuilder") (q1_ : Fld Z h0 a1 "java/lang/AbstractStringBuilder" "value" "[B" (.ref va)) (q2_ : Fld Z h0 a1 "java/lang/AbstractStringBuilder" "coder" "B" (.int 0)) (q3_ : Fld Z h0 a1 "java/lang/AbstractStringBuilder" "count" "I" (.int 1)) (q4_ : Arv Z h0 va kv .byte (1 : Int32) [v0] (.int 0)) (q5_ : n0 ≤ a1) (q6_ : a1 ≠ va) :
  MetFree l own_m6 (head1 (Jvm.Cond.code own_m6 jdk_68_method_9_code 3 none :: ws) (own_r 3 1 4 48)) (fun a U => a = #[(.ref a1), (.int 2)] ∧ Z.Warmed39 U.vm ∧ U.heap = h0) (fun _ _ _ _ _ => True) (fun _ U o U' => ∃ v L, o = .returned v ∧ QensG1 Z a1 va kv v0 h0 n0 v U'.heap L ∧ FrameEnd U o U' L (own_r 3 1 4 48).cells (own_r 3 1 4 48).slots) := by
 refine MetFree.of_bodySF (plainFor_of_name pn_17) hisR ?_
 intro p e s m args below meth c s₁ Bd hml0 hP hK
 have H : ∀ (i : Nat) {d : Jvm.Cond}, tables_1[i]? = some d → d.before a0 Z = true := fun i _ h => hw _ (own_w i h)
 obtain ⟨rfl, hZ, hh⟩ := hP
 have hx := Bd.exec
 have hby := Bd.bytes
 have hml : c.maxLocals = 3 := hml0
 have hown0 := findClass_of_methodNamed Bd.named
 have hown : s.vm.findClass "java/lang/AbstractStringBuilder" = some m.cls := hown0
 have hnm := (name_of_methodNamed Bd.named Bd.method).1
 have X0 : Stand p l e (own_r 3 1 4 48) s m #[(.ref a1), (.int 2)] below meth c s₁ [] 0 0 := Stand.of_body Bd
 have e0 : s₁.heap = h0 := by rw [← hh, Bd.state]; rfl
 have N0 := Fr.nil n0
 obtain ⟨S0, hS0⟩ : ∃ z, z = s₁.setTop (entryFrame m #[(.ref a1), (.int 2)] 3) := ⟨_, rfl⟩
 have pre0 : own_Go p e below S0 (s₁.setTop (mkF m 0 #[vR a1, vI 2, .unset] [])) := fun t k => by rw [hS0]; exact castTop (ef_ensG1 m a1) k
 have fin : ∀ t, Steps p.tables e below S0 t → Steps p.tables e below (s₁.setTop (entryFrame m #[(.ref a1), (.int 2)] 3)) t := fun t k => by rw [hS0] at k; exact k
 have kc0 : Keep h0 h0 [a1] := Keep.refl _ _
 have pre1 : own_Go p e below S0 (s₁.setTop (mkF m 1 #[vR a1, vI 2, .unset] [(.ref a1)])) := by
  intro t kt
  refine pre0 t ?_
  refine XS.aloadN X0.here hx rfl (hb hby d17_0) rfl rfl ?_
  exact kt
 obtain ⟨T2, X2, e2, st2⟩ := getF X0 hx hZ hown (host := "") (Or.inl (H 22 rfl)) Via.refl e0 q1_ (g := (own_top pre1)) rfl rfl (hb hby d17_1)
 have pre3 : own_Go p e below S0 (T2.setTop (mkF m 4 #[vR a1, vI 2, .unset] [(.ref va)])) := by
  intro t kt
  refine pre1 t ?_
  refine st2 _ ?_
  exact kt
 obtain ⟨cl4, Ar4, -, Sz4, Ng4, -, -⟩ := id q4_
 have pre5 : own_Go p e below S0 (T2.setTop (mkF m 6 #[vR a1, vI 2, .unset] [(.ref a1), (.int 1)])) := by
  intro t kt
  refine pre3 t ?_
  refine X2.arraylength hx (by rw [e2]; exact Ar4.1) (State.isArrayOf_alike hZ.alike Ar4.2.1) (g := (own_top pre3)) rfl rfl (hb hby d17_4) _ ?_
  rw [len_of Sz4 Ng4]
  show Steps p.tables e below (T2.setTop (mkF m 5 #[vR a1, vI 2, .unset] [(.int 1)])) _
  refine XS.aloadN X2.here hx rfl (hb hby d17_5) rfl rfl ?_
  exact kt
 obtain ⟨T6, X6, e6, st6⟩ := getF X2 hx hZ hown (host := "") (Or.inl (H 24 rfl)) Via.refl e2 q2_ (g := (own_top pre5)) rfl rfl (hb hby d17_6)
 have pre7 : own_Go p e below S0 (T6.setTop (mkF m 19 #[vR a1, vI 2, vI 1] [(.ref a1), (.ref a1)])) := by
  intro t kt
  refine pre5 t ?_
  refine st6 _ ?_
  refine XS.ishr X6.here hx rfl (hb hby d17_9) rfl ?_
  refine XS.istoreN X6.here hx rfl (hb hby d17_10) rfl (l' := #[vR a1, vI 2, vI 1]) rfl ?_
  refine XS.iloadN X6.here hx rfl (hb hby d17_11) rfl ?_
  refine XS.iloadN X6.here hx rfl (hb hby d17_12) rfl ?_
  refine XS.isub X6.here hx rfl (hb hby d17_13) rfl ?_
  refine XS.ifNo X6.here hx rfl (hb hby d17_14) rfl ((if0 _ _).trans (tlt (by decide : (0 : Int32) < (1 : Int32))).2.2.2) ?_
  refine XS.aloadN X6.here hx rfl (hb hby d17_17) rfl rfl ?_
  refine XS.aloadN X6.here hx rfl (hb hby d17_18) rfl rfl ?_
  exact kt
 obtain ⟨T8, X8, e8, st8⟩ := getF X6 hx hZ hown (host := "") (Or.inl (H 22 rfl)) Via.refl e6 q1_ (g := (own_top pre7)) rfl rfl (hb hby d17_19)
 have pre9 : own_Go p e below S0 (T8.setTop (mkF m 24 #[vR a1, vI 2, vI 1] [(.int 2), (.ref a1), (.ref va), (.ref a1)])) := by
  intro t kt
  refine pre7 t ?_
  refine st8 _ ?_
  refine XS.aloadN X8.here hx rfl (hb hby d17_22) rfl rfl ?_
  refine XS.iloadN X8.here hx rfl (hb hby d17_23) rfl ?_
  exact kt
 obtain ⟨cq10, qa10, qb10⟩ := q0_.cell
 obtain ⟨_, _, ⟨T10, L10, k10, n10⟩, -, X10, ⟨Lc10, hQ10, l10, y10, z10⟩, st10⟩ := X8.privateBack hx (y := own_m10) hown (mvT hZ (H 133 rfl)) (mvT hZ (H 134 rfl)) (own_selPriv3 (C := "java/lang/StringBuilder") (by decide) (mvT hZ (H 136 rfl)) (mvP hZ (H 135 rfl)) (mvT hZ (H 134 rfl))) (Cond.privateMethod_at (mvP hZ (H 135 rfl) (args := #[]))) (mvT hZ (H 137 rfl)) (by decide) (backOf (W := 2) (rm24 l Z a0 hw [] a1 (2 : Int32) va kv (1 : Int32) [v0] h0 n0 Z0 q1_ q2_ q4_ (by decide) (by decide) (by decide)) hZ (H 137 rfl) (H 15 rfl) (by decide) (by decide)) (g := (own_top pre9)) rfl (by rw [hml]; rfl) (Steps.refl _) (a := a1) (by rw [e8]; exact qa10) qb10 (argsL := [(.int 2)]) (rest := [(.ref va), (.ref a1)]) (lenOf pd_5 rfl) rfl (by show 2 * 0 + _ ≤ _; exact Nat.le_of_eq rfl) (hb hby d17_24) (fun _ _ => ⟨rfl, e8, (by decide : 0 + 0 ≤ _), (by decide : 0 + 0 ≤ _)⟩)
 dsimp only [Pt.U, Pt.locs, Pt.cells, Pt.slots] at X10 l10 y10 z10 st10 hQ10
 subst l10 y10 z10
 obtain ⟨rfl, Nq10, eq10⟩ := hQ10
 have N10 := Fr.app N0 Nq10
 have pre11 : own_Go p e below S0 (T10.setTop (mkF m 27 #[vR a1, vI 2, vI 1] [(.int (own_nc (2 : Int32) (1 : Int32))), (.ref va), (.ref a1)])) := by
  intro t kt
  refine pre9 t ?_
  refine st10.trans ?_
  show Steps p.tables e below (T10.setTop (mkF m 27 #[vR a1, vI 2, vI 1] [(.int (own_nc (2 : Int32) (1 : Int32))), (.ref va), (.ref a1)])) _
  exact kt
 have pre12 : own_Go p e below S0 (T10.setTop (mkF m 27 #[vR a1, vI 2, vI 1] [(.int 4), (.ref va), (.ref a1)])) := by
  intro t kt
  refine pre11 t ?_
  rw [(by decide : (own_nc (2 : Int32) (1 : Int32)) = (4 : Int32))]
  exact kt
 have pre13 : own_Go p e below S0 (T10.setTop (mkF m 28 #[vR a1, vI 2, vI 1] [(.ref a1), (.int 4), (.ref va), (.ref a1)])) := by
  intro t kt
  refine pre12 t ?_
  refine XS.aloadN X10.here hx rfl (hb hby d17_27) rfl rfl ?_
  exact kt
 obtain ⟨T14, X14, e14, st14⟩ := getF X10 hx hZ hown (host := "") (Or.inl (H 24 rfl)) Via.refl eq10 q2_ (g := (own_top pre13)) rfl rfl (hb hby d17_28)
 have pre15 : own_Go p e below S0 (T14.setTop (mkF m 32 #[vR a1, vI 2, vI 1] [(.int 4), (.ref va), (.ref a1)])) := by
  intro t kt
  refine pre13 t ?_
  refine st14 _ ?_
  refine XS.ishl X14.here hx rfl (hb hby d17_31) rfl ?_
  exact kt
 obtain ⟨_, _, ⟨T16, L16, k16, n16⟩, -, X16, ⟨Lc16, hQ16, l16, y16, z16⟩, st16⟩ := Jvm.LawKit.callS X14 hx (y := own_m27) hown (mvT hZ (H 148 rfl)) (mvT hZ (H 149 rfl)) (mvT hZ (H 66 rfl)) (mvT hZ (H 150 rfl)) (by decide) (backOf (W := 1) (rmco1 l Z a0 hw [] va kv v0 h0 n0 Z0 q4_) hZ (H 150 rfl) (H 66 rfl) (by decide) (by decide)) (g := (own_top pre15)) rfl (by rw [hml]; rfl) (argsL := [(.ref va), (.int 4)]) (rest := [(.ref a1)]) (lenOf pd_6 rfl) rfl (by show 2 * 0 + _ ≤ _; exact Nat.le_of_eq rfl) (hb hby d17_32) (fun _ _ => ⟨rfl, e14, (by decide : 0 + 1 ≤ _), (by decide : 0 + 4 ≤ _)⟩)
 dsimp only [Pt.U, Pt.locs, Pt.cells, Pt.slots] at X16 l16 y16 z16 st16 hQ16
 subst l16 y16 z16
 obtain ⟨b17, kb18, rfl, Nq16, K16, g19, g20, g21⟩ := hQ16
 have N16 := Fr.app N10 Nq16
 have ne22 : a1 ≠ b17 := Nat.ne_of_lt (Nat.lt_of_lt_of_le q0_.lt g19)
 have ne23 : va ≠ b17 := Nat.ne_of_lt (Nat.lt_of_lt_of_le q4_.lt g19)
 have ge24 : n0 ≤ b17 := Nat.le_trans Z0 g19
 have sz25 : h0.size ≤ b17 := Nat.le_trans kc0.1 g19
 have zs26 : n0 ≤ T16.heap.size := Nat.le_trans Z0 K16.1
 have kc27 : Keep h0 T16.heap [a1] := kc0.trans K16 all0
 have pre28 : own_Go p e below S0 (T16.setTop (mkF m 35 #[vR a1, vI 2, vI 1] [(.ref b17), (.ref a1)])) := by
  intro t kt
  refine pre15 t ?_
  refine st16 _ ?_
  show Steps p.tables e below (T16.setTop (mkF m 35 #[vR a1, vI 2, vI 1] [(.ref b17), (.ref a1)])) _
  exact kt
 have f29 : Fld Z T16.heap a1 "java/lang/AbstractStringBuilder" "value" "[B" (.ref va) := (q1_.keep K16 nin0)
 have f30 : Exa Z T16.heap a1 "java/lang/StringBuilder" := (q0_.keep K16)
 obtain ⟨T31, h31, X31, e31, W31, st31⟩ := putF X16 hx hZ hown (host := "") (Or.inl (H 22 rfl)) Via.refl rfl f29 f30 (Or.inl (H 23 rfl)) (H 6 rfl) (ty := (.array .byte)) (by decide) rfl rfl (g := (own_top pre28)) rfl rfl (hb hby d17_35)
 have N31 := Fr.snoc X31 N16 q5_
 have zs32 : n0 ≤ h31.size := Nat.le_trans zs26 (Keep.of_wr W31).1
 have kc33 : Keep h0 h31 [a1] := kc27.wr W31 (Or.inl (List.mem_of_getElem? (i := 0) rfl))
 have fw31 : Fld Z h31 a1 "java/lang/AbstractStringBuilder" "value" "[B" (.ref b17) := f29.same W31
 have pre34 : own_Go p e below S0 (T31.setTop (mkF m 38 #[vR a1, vI 2, vI 1] [])) := by
  intro t kt
  refine pre28 t ?_
  refine st31 _ ?_
  exact kt
 obtain ⟨fs, hr, hrun, hended, hW, hsame⟩ := X31.leave (v := none) (fun _ => rfl)
 refine ⟨_, _, fin _ (pre34 _ ?_), hrun, hended, _, _, rfl, ?_, ⟨_, rfl⟩, hW, hsame.mono (by decide) (by decide)⟩
 ·exact X31.returnOut hx Bd.returns (hb hby d17_38) hr
 have f35 : Exa Z h31 b17 "[B" := (g20.wr W31)
 have f36 : Arv Z h31 b17 kb18 .byte (4 : Int32) [v0, (.int 0), (.int 0), (.int 0)] (.int 0) := (g21.other W31 (Ne.symm ne22))
 have f37 : Exa Z h31 a1 "java/lang/StringBuilder" := (f30.wr W31)
 have f38 : Fld Z h31 a1 "java/lang/AbstractStringBuilder" "coder" "B" (.int 0) := ((q2_.keep K16 nin0).other W31 (Or.inr (slot_ne (Or.inl (H 25 rfl)) (Or.inl (H 23 rfl)) (by decide) (t := .byte) (t' := (.array .byte)) (by decide) (by decide))))
 have f39 : Fld Z h31 a1 "java/lang/AbstractStringBuilder" "count" "I" (.int 1) := ((q3_.keep K16 nin0).other W31 (Or.inr (slot_ne (Or.inl (H 56 rfl)) (Or.inl (H 23 rfl)) (by decide) (t := .int) (t' := (.array .byte)) (by decide) (by decide))))
 ·show QensG1 Z a1 va kv v0 h0 n0 _ T31.heap _
  rw [e31]
  exact ⟨b17, kb18, rfl, N31, kc33, sz25, f35, f36, f37, fw31, f38, f39⟩

theorem ef_ensG2 (m : MethodId) (x0 : Addr) : entryFrame m #[(.ref x0), (.int 3)] 3 = mkF m 0 #[vR x0, vI 3, .unset] [] := by first | (simp [entryFrame, mkF, argsToLocals, Value.category]; done) | rfl
def QensG2 (Z : State) (a1 : Addr) (va : Addr) (kv : ClassId) (v0 : Value) (v1 : Value) (h0 : Heap) (n0 : Nat) (v : Option Value) (h : Heap) (L : List Loc) : Prop := ∃ b : Addr, ∃ kb : ClassId, v = none ∧ Fr n0 L ∧ Keep h0 h [a1] ∧ h0.size ≤ b ∧ Exa Z h b "[B" ∧ Arv Z h b kb .byte (6 : Int32) [v0, v1, (.int 0), (.int 0), (.int 0), (.int 0)] (.int 0) ∧ Exa Z h a1 "java/lang/StringBuilder" ∧ Fld Z h a1 "java/lang/AbstractStringBuilder" "value" "[B" (.ref b) ∧ Fld Z h a1 "java/lang/AbstractStringBuilder" "coder" "B" (.int 0) ∧ Fld Z h a1 "java/lang/AbstractStringBuilder" "count" "I" (.int 2)
set_option maxRecDepth 65536 in
set_option maxHeartbeats 40000000 in
theorem rmensG2 (l : Launch) (Z : State) (a0 : Array Value) (hw : ∀ d ∈ tables_1, d.before a0 Z = true) (ws : List Jvm.Cond) (a1 : Addr) (va : Addr) (kv : ClassId) (v0 : Value) (v1 : Value) (h0 : Heap) (n0 : Nat) (Z0 : n0 ≤ h0.size) (q0_ : Exa Z h0 a1 "java/lang/StringBuilder") (q1_ : Fld Z h0 a1 "java/lang/AbstractStringBuilder" "value" "[B" (.ref va)) (q2_ : Fld Z h0 a1 "java/lang/AbstractStringBuilder" "coder" "B" (.int 0)) (q3_ : Fld Z h0 a1 "java/lang/AbstractStringBuilder" "count" "I" (.int 2)) (q4_ : Arv Z h0 va kv .byte (2 : Int32) [v0, v1] (.int 0)) (q5_ : n0 ≤ a1) (q6_ : a1 ≠ va) :
  MetFree l own_m6 (head1 (Jvm.Cond.code own_m6 jdk_68_method_9_code 3 none :: ws) (own_r 3 1 6 48)) (fun a U => a = #[(.ref a1), (.int 3)] ∧ Z.Warmed39 U.vm ∧ U.heap = h0) (fun _ _ _ _ _ => True) (fun _ U o U' => ∃ v L, o = .returned v ∧ QensG2 Z a1 va kv v0 v1 h0 n0 v U'.heap L ∧ FrameEnd U o U' L (own_r 3 1 6 48).cells (own_r 3 1 6 48).slots) := by
 refine MetFree.of_bodySF (plainFor_of_name pn_17) hisR ?_
 intro p e s m args below meth c s₁ Bd hml0 hP hK
 have H : ∀ (i : Nat) {d : Jvm.Cond}, tables_1[i]? = some d → d.before a0 Z = true := fun i _ h => hw _ (own_w i h)
 obtain ⟨rfl, hZ, hh⟩ := hP
 have hx := Bd.exec
 have hby := Bd.bytes
 have hml : c.maxLocals = 3 := hml0
 have hown0 := findClass_of_methodNamed Bd.named
 have hown : s.vm.findClass "java/lang/AbstractStringBuilder" = some m.cls := hown0
 have hnm := (name_of_methodNamed Bd.named Bd.method).1
 have X0 : Stand p l e (own_r 3 1 6 48) s m #[(.ref a1), (.int 3)] below meth c s₁ [] 0 0 := Stand.of_body Bd
 have e0 : s₁.heap = h0 := by rw [← hh, Bd.state]; rfl
 have N0 := Fr.nil n0
 obtain ⟨S0, hS0⟩ : ∃ z, z = s₁.setTop (entryFrame m #[(.ref a1), (.int 3)] 3) := ⟨_, rfl⟩
 have pre0 : own_Go p e below S0 (s₁.setTop (mkF m 0 #[vR a1, vI 3, .unset] [])) := fun t k => by rw [hS0]; exact castTop (ef_ensG2 m a1) k
 have fin : ∀ t, Steps p.tables e below S0 t → Steps p.tables e below (s₁.setTop (entryFrame m #[(.ref a1), (.int 3)] 3)) t := fun t k => by rw [hS0] at k; exact k
 have kc0 : Keep h0 h0 [a1] := Keep.refl _ _
 have pre1 : own_Go p e below S0 (s₁.setTop (mkF m 1 #[vR a1, vI 3, .unset] [(.ref a1)])) := by
  intro t kt
  refine pre0 t ?_
  refine XS.aloadN X0.here hx rfl (hb hby d17_0) rfl rfl ?_
  exact kt
 obtain ⟨T2, X2, e2, st2⟩ := getF X0 hx hZ hown (host := "") (Or.inl (H 22 rfl)) Via.refl e0 q1_ (g := (own_top pre1)) rfl rfl (hb hby d17_1)
 have pre3 : own_Go p e below S0 (T2.setTop (mkF m 4 #[vR a1, vI 3, .unset] [(.ref va)])) := by
  intro t kt
  refine pre1 t ?_
  refine st2 _ ?_
  exact kt
 obtain ⟨cl4, Ar4, -, Sz4, Ng4, -, -⟩ := id q4_
 have pre5 : own_Go p e below S0 (T2.setTop (mkF m 6 #[vR a1, vI 3, .unset] [(.ref a1), (.int 2)])) := by
  intro t kt
  refine pre3 t ?_
  refine X2.arraylength hx (by rw [e2]; exact Ar4.1) (State.isArrayOf_alike hZ.alike Ar4.2.1) (g := (own_top pre3)) rfl rfl (hb hby d17_4) _ ?_
  rw [len_of Sz4 Ng4]
  show Steps p.tables e below (T2.setTop (mkF m 5 #[vR a1, vI 3, .unset] [(.int 2)])) _
  refine XS.aloadN X2.here hx rfl (hb hby d17_5) rfl rfl ?_
  exact kt
 obtain ⟨T6, X6, e6, st6⟩ := getF X2 hx hZ hown (host := "") (Or.inl (H 24 rfl)) Via.refl e2 q2_ (g := (own_top pre5)) rfl rfl (hb hby d17_6)
 have pre7 : own_Go p e below S0 (T6.setTop (mkF m 19 #[vR a1, vI 3, vI 2] [(.ref a1), (.ref a1)])) := by
  intro t kt
  refine pre5 t ?_
  refine st6 _ ?_
  refine XS.ishr X6.here hx rfl (hb hby d17_9) rfl ?_
  refine XS.istoreN X6.here hx rfl (hb hby d17_10) rfl (l' := #[vR a1, vI 3, vI 2]) rfl ?_
  refine XS.iloadN X6.here hx rfl (hb hby d17_11) rfl ?_
  refine XS.iloadN X6.here hx rfl (hb hby d17_12) rfl ?_
  refine XS.isub X6.here hx rfl (hb hby d17_13) rfl ?_
  refine XS.ifNo X6.here hx rfl (hb hby d17_14) rfl ((if0 _ _).trans (tlt (by decide : (0 : Int32) < (1 : Int32))).2.2.2) ?_
  refine XS.aloadN X6.here hx rfl (hb hby d17_17) rfl rfl ?_
  refine XS.aloadN X6.here hx rfl (hb hby d17_18) rfl rfl ?_
  exact kt
 obtain ⟨T8, X8, e8, st8⟩ := getF X6 hx hZ hown (host := "") (Or.inl (H 22 rfl)) Via.refl e6 q1_ (g := (own_top pre7)) rfl rfl (hb hby d17_19)
 have pre9 : own_Go p e below S0 (T8.setTop (mkF m 24 #[vR a1, vI 3, vI 2] [(.int 3), (.ref a1), (.ref va), (.ref a1)])) := by
  intro t kt
  refine pre7 t ?_
  refine st8 _ ?_
  refine XS.aloadN X8.here hx rfl (hb hby d17_22) rfl rfl ?_
  refine XS.iloadN X8.here hx rfl (hb hby d17_23) rfl ?_
  exact kt
 obtain ⟨cq10, qa10, qb10⟩ := q0_.cell
 obtain ⟨_, _, ⟨T10, L10, k10, n10⟩, -, X10, ⟨Lc10, hQ10, l10, y10, z10⟩, st10⟩ := X8.privateBack hx (y := own_m10) hown (mvT hZ (H 133 rfl)) (mvT hZ (H 134 rfl)) (own_selPriv3 (C := "java/lang/StringBuilder") (by decide) (mvT hZ (H 136 rfl)) (mvP hZ (H 135 rfl)) (mvT hZ (H 134 rfl))) (Cond.privateMethod_at (mvP hZ (H 135 rfl) (args := #[]))) (mvT hZ (H 137 rfl)) (by decide) (backOf (W := 2) (rm24 l Z a0 hw [] a1 (3 : Int32) va kv (2 : Int32) [v0, v1] h0 n0 Z0 q1_ q2_ q4_ (by decide) (by decide) (by decide)) hZ (H 137 rfl) (H 15 rfl) (by decide) (by decide)) (g := (own_top pre9)) rfl (by rw [hml]; rfl) (Steps.refl _) (a := a1) (by rw [e8]; exact qa10) qb10 (argsL := [(.int 3)]) (rest := [(.ref va), (.ref a1)]) (lenOf pd_5 rfl) rfl (by show 2 * 0 + _ ≤ _; exact Nat.le_of_eq rfl) (hb hby d17_24) (fun _ _ => ⟨rfl, e8, (by decide : 0 + 0 ≤ _), (by decide : 0 + 0 ≤ _)⟩)
 dsimp only [Pt.U, Pt.locs, Pt.cells, Pt.slots] at X10 l10 y10 z10 st10 hQ10
 subst l10 y10 z10
 obtain ⟨rfl, Nq10, eq10⟩ := hQ10
 have N10 := Fr.app N0 Nq10
 have pre11 : own_Go p e below S0 (T10.setTop (mkF m 27 #[vR a1, vI 3, vI 2] [(.int (own_nc (3 : Int32) (2 : Int32))), (.ref va), (.ref a1)])) := by
  intro t kt
  refine pre9 t ?_
  refine st10.trans ?_
  show Steps p.tables e below (T10.setTop (mkF m 27 #[vR a1, vI 3, vI 2] [(.int (own_nc (3 : Int32) (2 : Int32))), (.ref va), (.ref a1)])) _
  exact kt
 have pre12 : own_Go p e below S0 (T10.setTop (mkF m 27 #[vR a1, vI 3, vI 2] [(.int 6), (.ref va), (.ref a1)])) := by
  intro t kt
  refine pre11 t ?_
  rw [(by decide : (own_nc (3 : Int32) (2 : Int32)) = (6 : Int32))]
  exact kt
 have pre13 : own_Go p e below S0 (T10.setTop (mkF m 28 #[vR a1, vI 3, vI 2] [(.ref a1), (.int 6), (.ref va), (.ref a1)])) := by
  intro t kt
  refine pre12 t ?_
  refine XS.aloadN X10.here hx rfl (hb hby d17_27) rfl rfl ?_
  exact kt
 obtain ⟨T14, X14, e14, st14⟩ := getF X10 hx hZ hown (host := "") (Or.inl (H 24 rfl)) Via.refl eq10 q2_ (g := (own_top pre13)) rfl rfl (hb hby d17_28)
 have pre15 : own_Go p e below S0 (T14.setTop (mkF m 32 #[vR a1, vI 3, vI 2] [(.int 6), (.ref va), (.ref a1)])) := by
  intro t kt
  refine pre13 t ?_
  refine st14 _ ?_
  refine XS.ishl X14.here hx rfl (hb hby d17_31) rfl ?_
  exact kt
 obtain ⟨_, _, ⟨T16, L16, k16, n16⟩, -, X16, ⟨Lc16, hQ16, l16, y16, z16⟩, st16⟩ := Jvm.LawKit.callS X14 hx (y := own_m27) hown (mvT hZ (H 148 rfl)) (mvT hZ (H 149 rfl)) (mvT hZ (H 66 rfl)) (mvT hZ (H 150 rfl)) (by decide) (backOf (W := 1) (rmco2 l Z a0 hw [] va kv v0 v1 h0 n0 Z0 q4_) hZ (H 150 rfl) (H 66 rfl) (by decide) (by decide)) (g := (own_top pre15)) rfl (by rw [hml]; rfl) (argsL := [(.ref va), (.int 6)]) (rest := [(.ref a1)]) (lenOf pd_6 rfl) rfl (by show 2 * 0 + _ ≤ _; exact Nat.le_of_eq rfl) (hb hby d17_32) (fun _ _ => ⟨rfl, e14, (by decide : 0 + 1 ≤ _), (by decide : 0 + 6 ≤ _)⟩)
 dsimp only [Pt.U, Pt.locs, Pt.cells, Pt.slots] at X16 l16 y16 z16 st16 hQ16
 subst l16 y16 z16
 obtain ⟨b17, kb18, rfl, Nq16, K16, g19, g20, g21⟩ := hQ16
 have N16 := Fr.app N10 Nq16
 have ne22 : a1 ≠ b17 := Nat.ne_of_lt (Nat.lt_of_lt_of_le q0_.lt g19)
 have ne23 : va ≠ b17 := Nat.ne_of_lt (Nat.lt_of_lt_of_le q4_.lt g19)
 have ge24 : n0 ≤ b17 := Nat.le_trans Z0 g19
 have sz25 : h0.size ≤ b17 := Nat.le_trans kc0.1 g19
 have zs26 : n0 ≤ T16.heap.size := Nat.le_trans Z0 K16.1
 have kc27 : Keep h0 T16.heap [a1] := kc0.trans K16 all0
 have pre28 : own_Go p e below S0 (T16.setTop (mkF m 35 #[vR a1, vI 3, vI 2] [(.ref b17), (.ref a1)])) := by
  intro t kt
  refine pre15 t ?_
  refine st16 _ ?_
  show Steps p.tables e below (T16.setTop (mkF m 35 #[vR a1, vI 3, vI 2] [(.ref b17), (.ref a1)])) _
  exact kt
 have f29 : Fld Z T16.heap a1 "java/lang/AbstractStringBuilder" "value" "[B" (.ref va) := (q1_.keep K16 nin0)
 have f30 : Exa Z T16.heap a1 "java/lang/StringBuilder" := (q0_.keep K16)
 obtain ⟨T31, h31, X31, e31, W31, st31⟩ := putF X16 hx hZ hown (host := "") (Or.inl (H 22 rfl)) Via.refl rfl f29 f30 (Or.inl (H 23 rfl)) (H 6 rfl) (ty := (.array .byte)) (by decide) rfl rfl (g := (own_top pre28)) rfl rfl (hb hby d17_35)
 have N31 := Fr.snoc X31 N16 q5_
 have zs32 : n0 ≤ h31.size := Nat.le_trans zs26 (Keep.of_wr W31).1
 have kc33 : Keep h0 h31 [a1] := kc27.wr W31 (Or.inl (List.mem_of_getElem? (i := 0) rfl))
 have fw31 : Fld Z h31 a1 "java/lang/AbstractStringBuilder" "value" "[B" (.ref b17) := f29.same W31
 have pre34 : own_Go p e below S0 (T31.setTop (mkF m 38 #[vR a1, vI 3, vI 2] [])) := by
  intro t kt
  refine pre28 t ?_
  refine st31 _ ?_
  exact kt
 obtain ⟨fs, hr, hrun, hended, hW, hsame⟩ := X31.leave (v := none) (fun _ => rfl)
 refine ⟨_, _, fin _ (pre34 _ ?_), hrun, hended, _, _, rfl, ?_, ⟨_, rfl⟩, hW, hsame.mono (by decide) (by decide)⟩
 ·exact X31.returnOut hx Bd.returns (hb hby d17_38) hr
 have f35 : Exa Z h31 b17 "[B" := (g20.wr W31)
 have f36 : Arv Z h31 b17 kb18 .byte (6 : Int32) [v0, v1, (.int 0), (.int 0), (.int 0), (.int 0)] (.int 0) := (g21.other W31 (Ne.symm ne22))
 have f37 : Exa Z h31 a1 "java/lang/StringBuilder" := (f30.wr W31)
 have f38 : Fld Z h31 a1 "java/lang/AbstractStringBuilder" "coder" "B" (.int 0) := ((q2_.keep K16 nin0).other W31 (Or.inr (slot_ne (Or.inl (H 25 rfl)) (Or.inl (H 23 rfl)) (by decide) (t := .byte) (t' := (.array .byte)) (by decide) (by decide))))
 have f39 : Fld Z h31 a1 "java/lang/AbstractStringBuilder" "count" "I" (.int 2) := ((q3_.keep K16 nin0).other W31 (Or.inr (slot_ne (Or.inl (H 56 rfl)) (Or.inl (H 23 rfl)) (by decide) (t := .int) (t' := (.array .byte)) (by decide) (by decide))))
 ·show QensG2 Z a1 va kv v0 v1 h0 n0 _ T31.heap _
  rw [e31]
  exact ⟨b17, kb18, rfl, N31, kc33, sz25, f35, f36, f37, fw31, f38, f39⟩

theorem ef_ensG3 (m : MethodId) (x0 : Addr) : entryFrame m #[(.ref x0), (.int 4)] 3 = mkF m 0 #[vR x0, vI 4, .unset] [] := by first | (simp [entryFrame, mkF, argsToLocals, Value.category]; done) | rfl
def QensG3 (Z : State) (a1 : Addr) (va : Addr) (kv : ClassId) (v0 : Value) (v1 : Value) (v2 : Value) (h0 : Heap) (n0 : Nat) (v : Option Value) (h : Heap) (L : List Loc) : Prop := ∃ b : Addr, ∃ kb : ClassId, v = none ∧ Fr n0 L ∧ Keep h0 h [a1] ∧ h0.size ≤ b ∧ Exa Z h b "[B" ∧ Arv Z h b kb .byte (8 : Int32) [v0, v1, v2, (.int 0), (.int 0), (.int 0), (.int 0), (.int 0)] (.int 0) ∧ Exa Z h a1 "java/lang/StringBuilder" ∧ Fld Z h a1 "java/lang/AbstractStringBuilder" "value" "[B" (.ref b) ∧ Fld Z h a1 "java/lang/AbstractStringBuilder" "coder" "B" (.int 0) ∧ Fld Z h a1 "java/lang/AbstractStringBuilder" "count" "I" (.int 3)
set_option maxRecDepth 65536 in
set_option maxHeartbeats 40000000 in
theorem rmensG3 (l : Launch) (Z : State) (a0 : Array Value) (hw : ∀ d ∈ tables_1, d.before a0 Z = true) (ws : List Jvm.Cond) (a1 : Addr) (va : Addr) (kv : ClassId) (v0 : Value) (v1 : Value) (v2 : Value) (h0 : Heap) (n0 : Nat) (Z0 : n0 ≤ h0.size) (q0_ : Exa Z h0 a1 "java/lang/StringBuilder") (q1_ : Fld Z h0 a1 "java/lang/AbstractStringBuilder" "value" "[B" (.ref va)) (q2_ : Fld Z h0 a1 "java/lang/AbstractStringBuilder" "coder" "B" (.int 0)) (q3_ : Fld Z h0 a1 "java/lang/AbstractStringBuilder" "count" "I" (.int 3)) (q4_ : Arv Z h0 va kv .byte (3 : Int32) [v0, v1, v2] (.int 0)) (q5_ : n0 ≤ a1) (q6_ : a1 ≠ va) :
  MetFree l own_m6 (head1 (Jvm.Cond.code own_m6 jdk_68_method_9_code 3 none :: ws) (own_r 3 1 8 48)) (fun a U => a = #[(.ref a1), (.int 4)] ∧ Z.Warmed39 U.vm ∧ U.heap = h0) (fun _ _ _ _ _ => True) (fun _ U o U' => ∃ v L, o = .returned v ∧ QensG3 Z a1 va kv v0 v1 v2 h0 n0 v U'.heap L ∧ FrameEnd U o U' L (own_r 3 1 8 48).cells (own_r 3 1 8 48).slots) := by
 refine MetFree.of_bodySF (plainFor_of_name pn_17) hisR ?_
 intro p e s m args below meth c s₁ Bd hml0 hP hK
 have H : ∀ (i : Nat) {d : Jvm.Cond}, tables_1[i]? = some d → d.before a0 Z = true := fun i _ h => hw _ (own_w i h)
 obtain ⟨rfl, hZ, hh⟩ := hP
 have hx := Bd.exec
 have hby := Bd.bytes
 have hml : c.maxLocals = 3 := hml0
 have hown0 := findClass_of_methodNamed Bd.named
 have hown : s.vm.findClass "java/lang/AbstractStringBuilder" = some m.cls := hown0
 have hnm := (name_of_methodNamed Bd.named Bd.method).1
 have X0 : Stand p l e (own_r 3 1 8 48) s m #[(.ref a1), (.int 4)] below meth c s₁ [] 0 0 := Stand.of_body Bd
 have e0 : s₁.heap = h0 := by rw [← hh, Bd.state]; rfl
 have N0 := Fr.nil n0
 obtain ⟨S0, hS0⟩ : ∃ z, z = s₁.setTop (entryFrame m #[(.ref a1), (.int 4)] 3) := ⟨_, rfl⟩
 have pre0 : own_Go p e below S0 (s₁.setTop (mkF m 0 #[vR a1, vI 4, .unset] [])) := fun t k => by rw [hS0]; exact castTop (ef_ensG3 m a1) k
 have fin : ∀ t, Steps p.tables e below S0 t → Steps p.tables e below (s₁.setTop (entryFrame m #[(.ref a1), (.int 4)] 3)) t := fun t k => by rw [hS0] at k; exact k
 have kc0 : Keep h0 h0 [a1] := Keep.refl _ _
 have pre1 : own_Go p e below S0 (s₁.setTop (mkF m 1 #[vR a1, vI 4, .unset] [(.ref a1)])) := by
  intro t kt
  refine pre0 t ?_
  refine XS.aloadN X0.here hx rfl (hb hby d17_0) rfl rfl ?_
  exact kt
 obtain ⟨T2, X2, e2, st2⟩ := getF X0 hx hZ hown (host := "") (Or.inl (H 22 rfl)) Via.refl e0 q1_ (g := (own_top pre1)) rfl rfl (hb hby d17_1)
 have pre3 : own_Go p e below S0 (T2.setTop (mkF m 4 #[vR a1, vI 4, .unset] [(.ref va)])) := by
  intro t kt
  refine pre1 t ?_
  refine st2 _ ?_
  exact kt
 obtain ⟨cl4, Ar4, -, Sz4, Ng4, -, -⟩ := id q4_
 have pre5 : own_Go p e below S0 (T2.setTop (mkF m 6 #[vR a1, vI 4, .unset] [(.ref a1), (.int 3)])) := by
  intro t kt
  refine pre3 t ?_
  refine X2.arraylength hx (by rw [e2]; exact Ar4.1) (State.isArrayOf_alike hZ.alike Ar4.2.1) (g := (own_top pre3)) rfl rfl (hb hby d17_4) _ ?_
  rw [len_of Sz4 Ng4]
  show Steps p.tables e below (T2.setTop (mkF m 5 #[vR a1, vI 4, .unset] [(.int 3)])) _
  refine XS.aloadN X2.here hx rfl (hb hby d17_5) rfl rfl ?_
  exact kt
 obtain ⟨T6, X6, e6, st6⟩ := getF X2 hx hZ hown (host := "") (Or.inl (H 24 rfl)) Via.refl e2 q2_ (g := (own_top pre5)) rfl rfl (hb hby d17_6)
 have pre7 : own_Go p e below S0 (T6.setTop (mkF m 19 #[vR a1, vI 4, vI 3] [(.ref a1), (.ref a1)])) := by
  intro t kt
  refine pre5 t ?_
  refine st6 _ ?_
  refine XS.ishr X6.here hx rfl (hb hby d17_9) rfl ?_
  refine XS.istoreN X6.here hx rfl (hb hby d17_10) rfl (l' := #[vR a1, vI 4, vI 3]) rfl ?_
  refine XS.iloadN X6.here hx rfl (hb hby d17_11) rfl ?_
  refine XS.iloadN X6.here hx rfl (hb hby d17_12) rfl ?_
  refine XS.isub X6.here hx rfl (hb hby d17_13) rfl ?_
  refine XS.ifNo X6.here hx rfl (hb hby d17_14) rfl ((if0 _ _).trans (tlt (by decide : (0 : Int32) < (1 : Int32))).2.2.2) ?_
  refine XS.aloadN X6.here hx rfl (hb hby d17_17) rfl rfl ?_
  refine XS.aloadN X6.here hx rfl (hb hby d17_18) rfl rfl ?_
  exact kt
 obtain ⟨T8, X8, e8, st8⟩ := getF X6 hx hZ hown (host := "") (Or.inl (H 22 rfl)) Via.refl e6 q1_ (g := (own_top pre7)) rfl rfl (hb hby d17_19)
 have pre9 : own_Go p e below S0 (T8.setTop (mkF m 24 #[vR a1, vI 4, vI 3] [(.int 4), (.ref a1), (.ref va), (.ref a1)])) := by
  intro t kt
  refine pre7 t ?_
  refine st8 _ ?_
  refine XS.aloadN X8.here hx rfl (hb hby d17_22) rfl rfl ?_
  refine XS.iloadN X8.here hx rfl (hb hby d17_23) rfl ?_
  exact kt
 obtain ⟨cq10, qa10, qb10⟩ := q0_.cell
 obtain ⟨_, _, ⟨T10, L10, k10, n10⟩, -, X10, ⟨Lc10, hQ10, l10, y10, z10⟩, st10⟩ := X8.privateBack hx (y := own_m10) hown (mvT hZ (H 133 rfl)) (mvT hZ (H 134 rfl)) (own_selPriv3 (C := "java/lang/StringBuilder") (by decide) (mvT hZ (H 136 rfl)) (mvP hZ (H 135 rfl)) (mvT hZ (H 134 rfl))) (Cond.privateMethod_at (mvP hZ (H 135 rfl) (args := #[]))) (mvT hZ (H 137 rfl)) (by decide) (backOf (W := 2) (rm24 l Z a0 hw [] a1 (4 : Int32) va kv (3 : Int32) [v0, v1, v2] h0 n0 Z0 q1_ q2_ q4_ (by decide) (by decide) (by decide)) hZ (H 137 rfl) (H 15 rfl) (by decide) (by decide)) (g := (own_top pre9)) rfl (by rw [hml]; rfl) (Steps.refl _) (a := a1) (by rw [e8]; exact qa10) qb10 (argsL := [(.int 4)]) (rest := [(.ref va), (.ref a1)]) (lenOf pd_5 rfl) rfl (by show 2 * 0 + _ ≤ _; exact Nat.le_of_eq rfl) (hb hby d17_24) (fun _ _ => ⟨rfl, e8, (by decide : 0 + 0 ≤ _), (by decide : 0 + 0 ≤ _)⟩)
 dsimp only [Pt.U, Pt.locs, Pt.cells, Pt.slots] at X10 l10 y10 z10 st10 hQ10
 subst l10 y10 z10
 obtain ⟨rfl, Nq10, eq10⟩ := hQ10
 have N10 := Fr.app N0 Nq10
 have pre11 : own_Go p e below S0 (T10.setTop (mkF m 27 #[vR a1, vI 4, vI 3] [(.int (own_nc (4 : Int32) (3 : Int32))), (.ref va), (.ref a1)])) := by
  intro t kt
  refine pre9 t ?_
  refine st10.trans ?_
  show Steps p.tables e below (T10.setTop (mkF m 27 #[vR a1, vI 4, vI 3] [(.int (own_nc (4 : Int32) (3 : Int32))), (.ref va), (.ref a1)])) _
  exact kt
 have pre12 : own_Go p e below S0 (T10.setTop (mkF m 27 #[vR a1, vI 4, vI 3] [(.int 8), (.ref va), (.ref a1)])) := by
  intro t kt
  refine pre11 t ?_
  rw [(by decide : (own_nc (4 : Int32) (3 : Int32)) = (8 : Int32))]
  exact kt
 have pre13 : own_Go p e below S0 (T10.setTop (mkF m 28 #[vR a1, vI 4, vI 3] [(.ref a1), (.int 8), (.ref va), (.ref a1)])) := by
  intro t kt
  refine pre12 t ?_
  refine XS.aloadN X10.here hx rfl (hb hby d17_27) rfl rfl ?_
  exact kt
 obtain ⟨T14, X14, e14, st14⟩ := getF X10 hx hZ hown (host := "") (Or.inl (H 24 rfl)) Via.refl eq10 q2_ (g := (own_top pre13)) rfl rfl (hb hby d17_28)
 have pre15 : own_Go p e below S0 (T14.setTop (mkF m 32 #[vR a1, vI 4, vI 3] [(.int 8), (.ref va), (.ref a1)])) := by
  intro t kt
  refine pre13 t ?_
  refine st14 _ ?_
  refine XS.ishl X14.here hx rfl (hb hby d17_31) rfl ?_
  exact kt
 obtain ⟨_, _, ⟨T16, L16, k16, n16⟩, -, X16, ⟨Lc16, hQ16, l16, y16, z16⟩, st16⟩ := Jvm.LawKit.callS X14 hx (y := own_m27) hown (mvT hZ (H 148 rfl)) (mvT hZ (H 149 rfl)) (mvT hZ (H 66 rfl)) (mvT hZ (H 150 rfl)) (by decide) (backOf (W := 1) (rmco3 l Z a0 hw [] va kv v0 v1 v2 h0 n0 Z0 q4_) hZ (H 150 rfl) (H 66 rfl) (by decide) (by decide)) (g := (own_top pre15)) rfl (by rw [hml]; rfl) (argsL := [(.ref va), (.int 8)]) (rest := [(.ref a1)]) (lenOf pd_6 rfl) rfl (by show 2 * 0 + _ ≤ _; exact Nat.le_of_eq rfl) (hb hby d17_32) (fun _ _ => ⟨rfl, e14, (by decide : 0 + 1 ≤ _), (by decide : 0 + 8 ≤ _)⟩)
 dsimp only [Pt.U, Pt.locs, Pt.cells, Pt.slots] at X16 l16 y16 z16 st16 hQ16
 subst l16 y16 z16
 obtain ⟨b17, kb18, rfl, Nq16, K16, g19, g20, g21⟩ := hQ16
 have N16 := Fr.app N10 Nq16
 have ne22 : a1 ≠ b17 := Nat.ne_of_lt (Nat.lt_of_lt_of_le q0_.lt g19)
 have ne23 : va ≠ b17 := Nat.ne_of_lt (Nat.lt_of_lt_of_le q4_.lt g19)
 have ge24 : n0 ≤ b17 := Nat.le_trans Z0 g19
 have sz25 : h0.size ≤ b17 := Nat.le_trans kc0.1 g19
 have zs26 : n0 ≤ T16.heap.size := Nat.le_trans Z0 K16.1
 have kc27 : Keep h0 T16.heap [a1] := kc0.trans K16 all0
 have pre28 : own_Go p e below S0 (T16.setTop (mkF m 35 #[vR a1, vI 4, vI 3] [(.ref b17), (.ref a1)])) := by
  intro t kt
  refine pre15 t ?_
  refine st16 _ ?_
  show Steps p.tables e below (T16.setTop (mkF m 35 #[vR a1, vI 4, vI 3] [(.ref b17), (.ref a1)])) _
  exact kt
 have f29 : Fld Z T16.heap a1 "java/lang/AbstractStringBuilder" "value" "[B" (.ref va) := (q1_.keep K16 nin0)
 have f30 : Exa Z T16.heap a1 "java/lang/StringBuilder" := (q0_.keep K16)
 obtain ⟨T31, h31, X31, e31, W31, st31⟩ := putF X16 hx hZ hown (host := "") (Or.inl (H 22 rfl)) Via.refl rfl f29 f30 (Or.inl (H 23 rfl)) (H 6 rfl) (ty := (.array .byte)) (by decide) rfl rfl (g := (own_top pre28)) rfl rfl (hb hby d17_35)
 have N31 := Fr.snoc X31 N16 q5_
 have zs32 : n0 ≤ h31.size := Nat.le_trans zs26 (Keep.of_wr W31).1
 have kc33 : Keep h0 h31 [a1] := kc27.wr W31 (Or.inl (List.mem_of_getElem? (i := 0) rfl))
 have fw31 : Fld Z h31 a1 "java/lang/AbstractStringBuilder" "value" "[B" (.ref b17) := f29.same W31
 have pre34 : own_Go p e below S0 (T31.setTop (mkF m 38 #[vR a1, vI 4, vI 3] [])) := by
  intro t kt
  refine pre28 t ?_
  refine st31 _ ?_
  exact kt
 obtain ⟨fs, hr, hrun, hended, hW, hsame⟩ := X31.leave (v := none) (fun _ => rfl)
 refine ⟨_, _, fin _ (pre34 _ ?_), hrun, hended, _, _, rfl, ?_, ⟨_, rfl⟩, hW, hsame.mono (by decide) (by decide)⟩
 ·exact X31.returnOut hx Bd.returns (hb hby d17_38) hr
 have f35 : Exa Z h31 b17 "[B" := (g20.wr W31)
 have f36 : Arv Z h31 b17 kb18 .byte (8 : Int32) [v0, v1, v2, (.int 0), (.int 0), (.int 0), (.int 0), (.int 0)] (.int 0) := (g21.other W31 (Ne.symm ne22))
 have f37 : Exa Z h31 a1 "java/lang/StringBuilder" := (f30.wr W31)
 have f38 : Fld Z h31 a1 "java/lang/AbstractStringBuilder" "coder" "B" (.int 0) := ((q2_.keep K16 nin0).other W31 (Or.inr (slot_ne (Or.inl (H 25 rfl)) (Or.inl (H 23 rfl)) (by decide) (t := .byte) (t' := (.array .byte)) (by decide) (by decide))))
 have f39 : Fld Z h31 a1 "java/lang/AbstractStringBuilder" "count" "I" (.int 3) := ((q3_.keep K16 nin0).other W31 (Or.inr (slot_ne (Or.inl (H 56 rfl)) (Or.inl (H 23 rfl)) (by decide) (t := .int) (t' := (.array .byte)) (by decide) (by decide))))
 ·show QensG3 Z a1 va kv v0 v1 v2 h0 n0 _ T31.heap _
  rw [e31]
  exact ⟨b17, kb18, rfl, N31, kc33, sz25, f35, f36, f37, fw31, f38, f39⟩

theorem ef_ensG8 (m : MethodId) (x0 : Addr) : entryFrame m #[(.ref x0), (.int 9)] 3 = mkF m 0 #[vR x0, vI 9, .unset] [] := by first | (simp [entryFrame, mkF, argsToLocals, Value.category]; done) | rfl
def QensG8 (Z : State) (a1 : Addr) (va : Addr) (kv : ClassId) (v0 : Value) (v1 : Value) (v2 : Value) (v3 : Value) (v4 : Value) (v5 : Value) (v6 : Value) (v7 : Value) (h0 : Heap) (n0 : Nat) (v : Option Value) (h : Heap) (L : List Loc) : Prop := ∃ b : Addr, ∃ kb : ClassId, v = none ∧ Fr n0 L ∧ Keep h0 h [a1] ∧ h0.size ≤ b ∧ Exa Z h b "[B" ∧ Arv Z h b kb .byte (18 : Int32) [v0, v1, v2, v3, v4, v5, v6, v7, (.int 0), (.int 0), (.int 0), (.int 0), (.int 0), (.int 0), (.int 0), (.int 0), (.int 0), (.int 0)] (.int 0) ∧ Exa Z h a1 "java/lang/StringBuilder" ∧ Fld Z h a1 "java/lang/AbstractStringBuilder" "value" "[B" (.ref b) ∧ Fld Z h a1 "java/lang/AbstractStringBuilder" "coder" "B" (.int 0) ∧ Fld Z h a1 "java/lang/AbstractStringBuilder" "count" "I" (.int 8)
set_option maxRecDepth 65536 in
set_option maxHeartbeats 40000000 in
theorem rmensG8 (l : Launch) (Z : State) (a0 : Array Value) (hw : ∀ d ∈ tables_1, d.before a0 Z = true) (ws : List Jvm.Cond) (a1 : Addr) (va : Addr) (kv : ClassId) (v0 : Value) (v1 : Value) (v2 : Value) (v3 : Value) (v4 : Value) (v5 : Value) (v6 : Value) (v7 : Value) (h0 : Heap) (n0 : Nat) (Z0 : n0 ≤ h0.size) (q0_ : Exa Z h0 a1 "java/lang/StringBuilder") (q1_ : Fld Z h0 a1 "java/lang/AbstractStringBuilder" "value" "[B" (.ref va)) (q2_ : Fld Z h0 a1 "java/lang/AbstractStringBuilder" "coder" "B" (.int 0)) (q3_ : Fld Z h0 a1 "java/lang/AbstractStringBuilder" "count" "I" (.int 8)) (q4_ : Arv Z h0 va kv .byte (8 : Int32) [v0, v1, v2, v3, v4, v5, v6, v7] (.int 0)) (q5_ : n0 ≤ a1) (q6_ : a1 ≠ va) :
  MetFree l own_m6 (head1 (Jvm.Cond.code own_m6 jdk_68_method_9_code 3 none :: ws) (own_r 3 1 18 48)) (fun a U => a = #[(.ref a1), (.int 9)] ∧ Z.Warmed39 U.vm ∧ U.heap = h0) (fun _ _ _ _ _ => True) (fun _ U o U' => ∃ v L, o = .returned v ∧ QensG8 Z a1 va kv v0 v1 v2 v3 v4 v5 v6 v7 h0 n0 v U'.heap L ∧ FrameEnd U o U' L (own_r 3 1 18 48).cells (own_r 3 1 18 48).slots) := by
 refine MetFree.of_bodySF (plainFor_of_name pn_17) hisR ?_
 intro p e s m args below meth c s₁ Bd hml0 hP hK
 have H : ∀ (i : Nat) {d : Jvm.Cond}, tables_1[i]? = some d → d.before a0 Z = true := fun i _ h => hw _ (own_w i h)
 obtain ⟨rfl, hZ, hh⟩ := hP
 have hx := Bd.exec
 have hby := Bd.bytes
 have hml : c.maxLocals = 3 := hml0
 have hown0 := findClass_of_methodNamed Bd.named
 have hown : s.vm.findClass "java/lang/AbstractStringBuilder" = some m.cls := hown0
 have hnm := (name_of_methodNamed Bd.named Bd.method).1
 have X0 : Stand p l e (own_r 3 1 18 48) s m #[(.ref a1), (.int 9)] below meth c s₁ [] 0 0 := Stand.of_body Bd
 have e0 : s₁.heap = h0 := by rw [← hh, Bd.state]; rfl
 have N0 := Fr.nil n0
 obtain ⟨S0, hS0⟩ : ∃ z, z = s₁.setTop (entryFrame m #[(.ref a1), (.int 9)] 3) := ⟨_, rfl⟩
 have pre0 : own_Go p e below S0 (s₁.setTop (mkF m 0 #[vR a1, vI 9, .unset] [])) := fun t k => by rw [hS0]; exact castTop (ef_ensG8 m a1) k
 have fin : ∀ t, Steps p.tables e below S0 t → Steps p.tables e below (s₁.setTop (entryFrame m #[(.ref a1), (.int 9)] 3)) t := fun t k => by rw [hS0] at k; exact k
 have kc0 : Keep h0 h0 [a1] := Keep.refl _ _
 have pre1 : own_Go p e below S0 (s₁.setTop (mkF m 1 #[vR a1, vI 9, .unset] [(.ref a1)])) := by
  intro t kt
  refine pre0 t ?_
  refine XS.aloadN X0.here hx rfl (hb hby d17_0) rfl rfl ?_
  exact kt
 obtain ⟨T2, X2, e2, st2⟩ := getF X0 hx hZ hown (host := "") (Or.inl (H 22 rfl)) Via.refl e0 q1_ (g := (own_top pre1)) rfl rfl (hb hby d17_1)
 have pre3 : own_Go p e below S0 (T2.setTop (mkF m 4 #[vR a1, vI 9, .unset] [(.ref va)])) := by
  intro t kt
  refine pre1 t ?_
  refine st2 _ ?_
  exact kt
 obtain ⟨cl4, Ar4, -, Sz4, Ng4, -, -⟩ := id q4_
 have pre5 : own_Go p e below S0 (T2.setTop (mkF m 6 #[vR a1, vI 9, .unset] [(.ref a1), (.int 8)])) := by
  intro t kt
  refine pre3 t ?_
  refine X2.arraylength hx (by rw [e2]; exact Ar4.1) (State.isArrayOf_alike hZ.alike Ar4.2.1) (g := (own_top pre3)) rfl rfl (hb hby d17_4) _ ?_
  rw [len_of Sz4 Ng4]
  show Steps p.tables e below (T2.setTop (mkF m 5 #[vR a1, vI 9, .unset] [(.int 8)])) _
  refine XS.aloadN X2.here hx rfl (hb hby d17_5) rfl rfl ?_
  exact kt
 obtain ⟨T6, X6, e6, st6⟩ := getF X2 hx hZ hown (host := "") (Or.inl (H 24 rfl)) Via.refl e2 q2_ (g := (own_top pre5)) rfl rfl (hb hby d17_6)
 have pre7 : own_Go p e below S0 (T6.setTop (mkF m 19 #[vR a1, vI 9, vI 8] [(.ref a1), (.ref a1)])) := by
  intro t kt
  refine pre5 t ?_
  refine st6 _ ?_
  refine XS.ishr X6.here hx rfl (hb hby d17_9) rfl ?_
  refine XS.istoreN X6.here hx rfl (hb hby d17_10) rfl (l' := #[vR a1, vI 9, vI 8]) rfl ?_
  refine XS.iloadN X6.here hx rfl (hb hby d17_11) rfl ?_
  refine XS.iloadN X6.here hx rfl (hb hby d17_12) rfl ?_
  refine XS.isub X6.here hx rfl (hb hby d17_13) rfl ?_
  refine XS.ifNo X6.here hx rfl (hb hby d17_14) rfl ((if0 _ _).trans (tlt (by decide : (0 : Int32) < (1 : Int32))).2.2.2) ?_
  refine XS.aloadN X6.here hx rfl (hb hby d17_17) rfl rfl ?_
  refine XS.aloadN X6.here hx rfl (hb hby d17_18) rfl rfl ?_
  exact kt
 obtain ⟨T8, X8, e8, st8⟩ := getF X6 hx hZ hown (host := "") (Or.inl (H 22 rfl)) Via.refl e6 q1_ (g := (own_top pre7)) rfl rfl (hb hby d17_19)
 have pre9 : own_Go p e below S0 (T8.setTop (mkF m 24 #[vR a1, vI 9, vI 8] [(.int 9), (.ref a1), (.ref va), (.ref a1)])) := by
  intro t kt
  refine pre7 t ?_
  refine st8 _ ?_
  refine XS.aloadN X8.here hx rfl (hb hby d17_22) rfl rfl ?_
  refine XS.iloadN X8.here hx rfl (hb hby d17_23) rfl ?_
  exact kt
 obtain ⟨cq10, qa10, qb10⟩ := q0_.cell
 obtain ⟨_, _, ⟨T10, L10, k10, n10⟩, -, X10, ⟨Lc10, hQ10, l10, y10, z10⟩, st10⟩ := X8.privateBack hx (y := own_m10) hown (mvT hZ (H 133 rfl)) (mvT hZ (H 134 rfl)) (own_selPriv3 (C := "java/lang/StringBuilder") (by decide) (mvT hZ (H 136 rfl)) (mvP hZ (H 135 rfl)) (mvT hZ (H 134 rfl))) (Cond.privateMethod_at (mvP hZ (H 135 rfl) (args := #[]))) (mvT hZ (H 137 rfl)) (by decide) (backOf (W := 2) (rm24 l Z a0 hw [] a1 (9 : Int32) va kv (8 : Int32) [v0, v1, v2, v3, v4, v5, v6, v7] h0 n0 Z0 q1_ q2_ q4_ (by decide) (by decide) (by decide)) hZ (H 137 rfl) (H 15 rfl) (by decide) (by decide)) (g := (own_top pre9)) rfl (by rw [hml]; rfl) (Steps.refl _) (a := a1) (by rw [e8]; exact qa10) qb10 (argsL := [(.int 9)]) (rest := [(.ref va), (.ref a1)]) (lenOf pd_5 rfl) rfl (by show 2 * 0 + _ ≤ _; exact Nat.le_of_eq rfl) (hb hby d17_24) (fun _ _ => ⟨rfl, e8, (by decide : 0 + 0 ≤ _), (by decide : 0 + 0 ≤ _)⟩)
 dsimp only [Pt.U, Pt.locs, Pt.cells, Pt.slots] at X10 l10 y10 z10 st10 hQ10
 subst l10 y10 z10
 obtain ⟨rfl, Nq10, eq10⟩ := hQ10
 have N10 := Fr.app N0 Nq10
 have pre11 : own_Go p e below S0 (T10.setTop (mkF m 27 #[vR a1, vI 9, vI 8] [(.int (own_nc (9 : Int32) (8 : Int32))), (.ref va), (.ref a1)])) := by
  intro t kt
  refine pre9 t ?_
  refine st10.trans ?_
  show Steps p.tables e below (T10.setTop (mkF m 27 #[vR a1, vI 9, vI 8] [(.int (own_nc (9 : Int32) (8 : Int32))), (.ref va), (.ref a1)])) _
  exact kt
 have pre12 : own_Go p e below S0 (T10.setTop (mkF m 27 #[vR a1, vI 9, vI 8] [(.int 18), (.ref va), (.ref a1)])) := by
  intro t kt
  refine pre11 t ?_
  rw [(by decide : (own_nc (9 : Int32) (8 : Int32)) = (18 : Int32))]
  exact kt
 have pre13 : own_Go p e below S0 (T10.setTop (mkF m 28 #[vR a1, vI 9, vI 8] [(.ref a1), (.int 18), (.ref va), (.ref a1)])) := by
  intro t kt
  refine pre12 t ?_
  refine XS.aloadN X10.here hx rfl (hb hby d17_27) rfl rfl ?_
  exact kt
 obtain ⟨T14, X14, e14, st14⟩ := getF X10 hx hZ hown (host := "") (Or.inl (H 24 rfl)) Via.refl eq10 q2_ (g := (own_top pre13)) rfl rfl (hb hby d17_28)
 have pre15 : own_Go p e below S0 (T14.setTop (mkF m 32 #[vR a1, vI 9, vI 8] [(.int 18), (.ref va), (.ref a1)])) := by
  intro t kt
  refine pre13 t ?_
  refine st14 _ ?_
  refine XS.ishl X14.here hx rfl (hb hby d17_31) rfl ?_
  exact kt
 obtain ⟨_, _, ⟨T16, L16, k16, n16⟩, -, X16, ⟨Lc16, hQ16, l16, y16, z16⟩, st16⟩ := Jvm.LawKit.callS X14 hx (y := own_m27) hown (mvT hZ (H 148 rfl)) (mvT hZ (H 149 rfl)) (mvT hZ (H 66 rfl)) (mvT hZ (H 150 rfl)) (by decide) (backOf (W := 1) (rmco8 l Z a0 hw [] va kv v0 v1 v2 v3 v4 v5 v6 v7 h0 n0 Z0 q4_) hZ (H 150 rfl) (H 66 rfl) (by decide) (by decide)) (g := (own_top pre15)) rfl (by rw [hml]; rfl) (argsL := [(.ref va), (.int 18)]) (rest := [(.ref a1)]) (lenOf pd_6 rfl) rfl (by show 2 * 0 + _ ≤ _; exact Nat.le_of_eq rfl) (hb hby d17_32) (fun _ _ => ⟨rfl, e14, (by decide : 0 + 1 ≤ _), (by decide : 0 + 18 ≤ _)⟩)
 dsimp only [Pt.U, Pt.locs, Pt.cells, Pt.slots] at X16 l16 y16 z16 st16 hQ16
 subst l16 y16 z16
 obtain ⟨b17, kb18, rfl, Nq16, K16, g19, g20, g21⟩ := hQ16
 have N16 := Fr.app N10 Nq16
 have ne22 : a1 ≠ b17 := Nat.ne_of_lt (Nat.lt_of_lt_of_le q0_.lt g19)
 have ne23 : va ≠ b17 := Nat.ne_of_lt (Nat.lt_of_lt_of_le q4_.lt g19)
 have ge24 : n0 ≤ b17 := Nat.le_trans Z0 g19
 have sz25 : h0.size ≤ b17 := Nat.le_trans kc0.1 g19
 have zs26 : n0 ≤ T16.heap.size := Nat.le_trans Z0 K16.1
 have kc27 : Keep h0 T16.heap [a1] := kc0.trans K16 all0
 have pre28 : own_Go p e below S0 (T16.setTop (mkF m 35 #[vR a1, vI 9, vI 8] [(.ref b17), (.ref a1)])) := by
  intro t kt
  refine pre15 t ?_
  refine st16 _ ?_
  show Steps p.tables e below (T16.setTop (mkF m 35 #[vR a1, vI 9, vI 8] [(.ref b17), (.ref a1)])) _
  exact kt
 have f29 : Fld Z T16.heap a1 "java/lang/AbstractStringBuilder" "value" "[B" (.ref va) := (q1_.keep K16 nin0)
 have f30 : Exa Z T16.heap a1 "java/lang/StringBuilder" := (q0_.keep K16)
 obtain ⟨T31, h31, X31, e31, W31, st31⟩ := putF X16 hx hZ hown (host := "") (Or.inl (H 22 rfl)) Via.refl rfl f29 f30 (Or.inl (H 23 rfl)) (H 6 rfl) (ty := (.array .byte)) (by decide) rfl rfl (g := (own_top pre28)) rfl rfl (hb hby d17_35)
 have N31 := Fr.snoc X31 N16 q5_
 have zs32 : n0 ≤ h31.size := Nat.le_trans zs26 (Keep.of_wr W31).1
 have kc33 : Keep h0 h31 [a1] := kc27.wr W31 (Or.inl (List.mem_of_getElem? (i := 0) rfl))
 have fw31 : Fld Z h31 a1 "java/lang/AbstractStringBuilder" "value" "[B" (.ref b17) := f29.same W31
 have pre34 : own_Go p e below S0 (T31.setTop (mkF m 38 #[vR a1, vI 9, vI 8] [])) := by
  intro t kt
  refine pre28 t ?_
  refine st31 _ ?_
  exact kt
 obtain ⟨fs, hr, hrun, hended, hW, hsame⟩ := X31.leave (v := none) (fun _ => rfl)
 refine ⟨_, _, fin _ (pre34 _ ?_), hrun, hended, _, _, rfl, ?_, ⟨_, rfl⟩, hW, hsame.mono (by decide) (by decide)⟩
 ·exact X31.returnOut hx Bd.returns (hb hby d17_38) hr
 have f35 : Exa Z h31 b17 "[B" := (g20.wr W31)
 have f36 : Arv Z h31 b17 kb18 .byte (18 : Int32) [v0, v1, v2, v3, v4, v5, v6, v7, (.int 0), (.int 0), (.int 0), (.int 0), (.int 0), (.int 0), (.int 0), (.int 0), (.int 0), (.int 0)] (.int 0) := (g21.other W31 (Ne.symm ne22))
 have f37 : Exa Z h31 a1 "java/lang/StringBuilder" := (f30.wr W31)
 have f38 : Fld Z h31 a1 "java/lang/AbstractStringBuilder" "coder" "B" (.int 0) := ((q2_.keep K16 nin0).other W31 (Or.inr (slot_ne (Or.inl (H 25 rfl)) (Or.inl (H 23 rfl)) (by decide) (t := .byte) (t' := (.array .byte)) (by decide) (by decide))))
 have f39 : Fld Z h31 a1 "java/lang/AbstractStringBuilder" "count" "I" (.int 8) := ((q3_.keep K16 nin0).other W31 (Or.inr (slot_ne (Or.inl (H 56 rfl)) (Or.inl (H 23 rfl)) (by decide) (t := .int) (t' := (.array .byte)) (by decide) (by decide))))
 ·show QensG8 Z a1 va kv v0 v1 v2 v3 v4 v5 v6 v7 h0 n0 _ T31.heap _
  rw [e31]
  exact ⟨b17, kb18, rfl, N31, kc33, sz25, f35, f36, f37, fw31, f38, f39⟩

theorem d16_0 : decode jdk_68_method_31_code 0 = .ok (.aload_n 0, 1) := by decide +kernel
theorem d16_1 : decode jdk_68_method_31_code 1 = .ok (.aload_n 0, 1) := by decide +kernel
theorem d16_2 : decode jdk_68_method_31_code 2 = .ok (.getfield 79, 3) := by decide +kernel
theorem d16_5 : decode jdk_68_method_31_code 5 = .ok (.iconst 1, 1) := by decide +kernel
theorem d16_6 : decode jdk_68_method_31_code 6 = .ok (.iadd, 1) := by decide +kernel
theorem d16_7 : decode jdk_68_method_31_code 7 = .ok (.invokevirtual 100, 3) := by decide +kernel
theorem d16_10 : decode jdk_68_method_31_code 10 = .ok (.aload_n 0, 1) := by decide +kernel
theorem d16_11 : decode jdk_68_method_31_code 11 = .ok (.invokevirtual 83, 3) := by decide +kernel
theorem d16_14 : decode jdk_68_method_31_code 14 = .ok (.ifCond .eq 31, 3) := by decide +kernel
theorem d16_17 : decode jdk_68_method_31_code 17 = .ok (.iload_n 1, 1) := by decide +kernel
theorem d16_18 : decode jdk_68_method_31_code 18 = .ok (.invokestatic 191, 3) := by decide +kernel
theorem d16_21 : decode jdk_68_method_31_code 21 = .ok (.ifCond .eq 24, 3) := by decide +kernel
theorem d16_24 : decode jdk_68_method_31_code 24 = .ok (.aload_n 0, 1) := by decide +kernel
theorem d16_25 : decode jdk_68_method_31_code 25 = .ok (.getfield 15, 3) := by decide +kernel
theorem d16_28 : decode jdk_68_method_31_code 28 = .ok (.aload_n 0, 1) := by decide +kernel
theorem d16_29 : decode jdk_68_method_31_code 29 = .ok (.dup, 1) := by decide +kernel
theorem d16_30 : decode jdk_68_method_31_code 30 = .ok (.getfield 79, 3) := by decide +kernel
theorem d16_33 : decode jdk_68_method_31_code 33 = .ok (.dup_x1, 1) := by decide +kernel
theorem d16_34 : decode jdk_68_method_31_code 34 = .ok (.iconst 1, 1) := by decide +kernel
theorem d16_35 : decode jdk_68_method_31_code 35 = .ok (.iadd, 1) := by decide +kernel
theorem d16_36 : decode jdk_68_method_31_code 36 = .ok (.putfield 79, 3) := by decide +kernel
theorem d16_39 : decode jdk_68_method_31_code 39 = .ok (.iload_n 1, 1) := by decide +kernel
theorem d16_40 : decode jdk_68_method_31_code 40 = .ok (.i2b, 1) := by decide +kernel
theorem d16_41 : decode jdk_68_method_31_code 41 = .ok (.bastore, 1) := by decide +kernel
theorem d16_42 : decode jdk_68_method_31_code 42 = .ok (.goto 33, 3) := by decide +kernel
theorem d16_75 : decode jdk_68_method_31_code 75 = .ok (.aload_n 0, 1) := by decide +kernel
theorem d16_76 : decode jdk_68_method_31_code 76 = .ok (.areturn, 1) := by decide +kernel
theorem pn_16 : plainName "java/lang/AbstractStringBuilder" = true := by first | (simp [plainName, overriddenIn]; done) | decide +kernel
theorem pd_7 : parseMethodDescriptor "()Z" = some ⟨[], some .boolean⟩ := by decide +kernel
theorem pd_8 : parseMethodDescriptor "(C)Z" = some ⟨[.char], some .boolean⟩ := by decide +kernel
theorem ef_aaN (m : MethodId) (x0 : Addr) (x1 : Int32) : entryFrame m #[(.ref x0), (.int x1)] 2 = mkF m 0 #[vR x0, vI x1] [] := by first | (simp [entryFrame, mkF, argsToLocals, Value.category]; done) | rfl
def QaaN (Z : State) (a1 : Addr) (p2 : Int32) (wC : Int32) (va : Addr) (kv : ClassId) (z1 : Int32) (vs : List Value) (u : Int32) (i : Nat) (h0 : Heap) (n0 : Nat) (v : Option Value) (h : Heap) (L : List Loc) : Prop := v = (some (.ref a1)) ∧ Fr n0 L ∧ Keep h0 h [a1, va] ∧ Arv Z h va kv .byte z1 (vs.set i (.int (nar .byte (p2.toInt8.toInt32)))) (.int 0) ∧ Exa Z h a1 "java/lang/StringBuilder" ∧ Fld Z h a1 "java/lang/AbstractStringBuilder" "value" "[B" (.ref va) ∧ Fld Z h a1 "java/lang/AbstractStringBuilder" "coder" "B" (.int 0) ∧ Fld Z h a1 "java/lang/AbstractStringBuilder" "count" "I" (.int (u + (1 : Int32)))
set_option maxRecDepth 65536 in
set_option maxHeartbeats 40000000 in
theorem rmaaN (l : Launch) (Z : State) (a0 : Array Value) (hw : ∀ d ∈ tables_1, d.before a0 Z = true) (ws : List Jvm.Cond) (a1 : Addr) (p2 : Int32) (wC : Int32) (va : Addr) (kv : ClassId) (z1 : Int32) (vs : List Value) (u : Int32) (i : Nat) (h0 : Heap) (n0 : Nat) (Z0 : n0 ≤ h0.size) (O0 : Old Z n0 h0) (qC : (own_SC Z wC)) (q0_ : Exa Z h0 a1 "java/lang/StringBuilder") (q1_ : Fld Z h0 a1 "java/lang/AbstractStringBuilder" "value" "[B" (.ref va)) (q2_ : Fld Z h0 a1 "java/lang/AbstractStringBuilder" "coder" "B" (.int 0)) (q3_ : Fld Z h0 a1 "java/lang/AbstractStringBuilder" "count" "I" (.int u)) (q4_ : Arv Z h0 va kv .byte z1 vs (.int 0)) (q5_ : n0 ≤ a1) (q6_ : n0 ≤ va) (q7_ : a1 ≠ va) (hb1 : (¬ u < (0 : Int32))) (hb2 : (u < z1)) (hi : (u.toNatClampNeg = i)) (hil : (i < vs.length)) (hle : (¬ (0 : Int32) < ((u + (1 : Int32)) - (z1 >>> ((0 : Int32) &&& 31))))) (hcan : (¬ own_can p2 = (0 : Int32))) :
  MetFree l own_m5 (head1 (Jvm.Cond.code own_m5 jdk_68_method_31_code 2 (some (.object "java/lang/AbstractStringBuilder")) :: ws) (own_r 1 0 0 14)) (fun a U => a = #[(.ref a1), (.int p2)] ∧ Z.Warmed39 U.vm ∧ U.heap = h0) (fun _ _ _ _ _ => True) (fun _ U o U' => ∃ v L, o = .returned v ∧ QaaN Z a1 p2 wC va kv z1 vs u i h0 n0 v U'.heap L ∧ FrameEnd U o U' L (own_r 1 0 0 14).cells (own_r 1 0 0 14).slots) := by
 refine MetFree.of_bodySF (plainFor_of_name pn_16) hisR ?_
 intro p e s m args below meth c s₁ Bd hml0 hP hK
 have H : ∀ (i : Nat) {d : Jvm.Cond}, tables_1[i]? = some d → d.before a0 Z = true := fun i _ h => hw _ (own_w i h)
 obtain ⟨rfl, hZ, hh⟩ := hP
 have hx := Bd.exec
 have hby := Bd.bytes
 have hml : c.maxLocals = 2 := hml0
 have hown0 := findClass_of_methodNamed Bd.named
 have hown : s.vm.findClass "java/lang/AbstractStringBuilder" = some m.cls := hown0
 have hnm := (name_of_methodNamed Bd.named Bd.method).1
 have X0 : Stand p l e (own_r 1 0 0 14) s m #[(.ref a1), (.int p2)] below meth c s₁ [] 0 0 := Stand.of_body Bd
 have e0 : s₁.heap = h0 := by rw [← hh, Bd.state]; rfl
 have N0 := Fr.nil n0
 obtain ⟨S0, hS0⟩ : ∃ z, z = s₁.setTop (entryFrame m #[(.ref a1), (.int p2)] 2) := ⟨_, rfl⟩
 have pre0 : own_Go p e below S0 (s₁.setTop (mkF m 0 #[vR a1, vI p2] [])) := fun t k => by rw [hS0]; exact castTop (ef_aaN m a1 p2) k
 have fin : ∀ t, Steps p.tables e below S0 t → Steps p.tables e below (s₁.setTop (entryFrame m #[(.ref a1), (.int p2)] 2)) t := fun t k => by rw [hS0] at k; exact k
 have kc0 : Keep h0 h0 [a1, va] := Keep.refl _ _
 have pre1 : own_Go p e below S0 (s₁.setTop (mkF m 2 #[vR a1, vI p2] [(.ref a1), (.ref a1)])) := by
  intro t kt
  refine pre0 t ?_
  refine XS.aloadN X0.here hx rfl (hb hby d16_0) rfl rfl ?_
  refine XS.aloadN X0.here hx rfl (hb hby d16_1) rfl rfl ?_
  exact kt
 obtain ⟨T2, X2, e2, st2⟩ := getF X0 hx hZ hown (host := "") (Or.inl (H 55 rfl)) Via.refl e0 q3_ (g := (own_top pre1)) rfl rfl (hb hby d16_2)
 have pre3 : own_Go p e below S0 (T2.setTop (mkF m 7 #[vR a1, vI p2] [(.int (u + (1 : Int32))), (.ref a1)])) := by
  intro t kt
  refine pre1 t ?_
  refine st2 _ ?_
  refine XS.iconst X2.here hx rfl (hb hby d16_5) ?_
  refine XS.iadd X2.here hx rfl (hb hby d16_6) rfl ?_
  exact kt
 obtain ⟨cq4, qa4, qb4⟩ := q0_.cell
 obtain ⟨_, _, ⟨T4, L4, k4, n4⟩, -, X4, ⟨Lc4, hQ4, l4, y4, z4⟩, st4⟩ := X2.privateBack hx (y := own_m6) hown (mvT hZ (H 99 rfl)) (mvT hZ (H 100 rfl)) (own_selPriv3 (C := "java/lang/StringBuilder") (by decide) (mvT hZ (H 102 rfl)) (mvP hZ (H 101 rfl)) (mvT hZ (H 100 rfl))) (Cond.privateMethod_at (mvP hZ (H 101 rfl) (args := #[]))) (mvT hZ (H 103 rfl)) (by decide) (backOf (W := 0) (rmens0 l Z a0 hw [] a1 (u + (1 : Int32)) va kv z1 vs h0 n0 Z0 q1_ q2_ q4_ hle) hZ (H 103 rfl) (H 15 rfl) (by decide) (by decide)) (g := (own_top pre3)) rfl (by rw [hml]; rfl) (Steps.refl _) (a := a1) (by rw [e2]; exact qa4) qb4 (argsL := [(.int (u + (1 : Int32)))]) (rest := []) (lenOf pd_4 rfl) rfl (by show 2 * 0 + _ ≤ _; exact Nat.le_of_eq rfl) (hb hby d16_7) (fun _ _ => ⟨rfl, e2, (by decide : 0 + 0 ≤ _), (by decide : 0 + 0 ≤ _)⟩)
 dsimp only [Pt.U, Pt.locs, Pt.cells, Pt.slots] at X4 l4 y4 z4 st4 hQ4
 subst l4 y4 z4
 obtain ⟨rfl, Nq4, eq4⟩ := hQ4
 have N4 := Fr.app N0 Nq4
 have pre5 : own_Go p e below S0 (T4.setTop (mkF m 11 #[vR a1, vI p2] [(.ref a1)])) := by
  intro t kt
  refine pre3 t ?_
  refine st4.trans ?_
  show Steps p.tables e below (T4.setTop (mkF m 10 #[vR a1, vI p2] [])) _
  refine XS.aloadN X4.here hx rfl (hb hby d16_10) rfl rfl ?_
  exact kt
 obtain ⟨cq6, kq6, qa6, qb6, qc6⟩ := isOf hZ eq4 q0_
 obtain ⟨_, _, ⟨T6, L6, k6, n6⟩, -, X6, ⟨Lc6, hQ6, l6, y6, z6⟩, st6⟩ := X4.virtualBack hx (y := own_m8) (z := own_m8) hown (mvT hZ (H 104 rfl)) (mvT hZ (H 58 rfl)) (notFace_of_selects (args := #[]) (mvT hZ (H 60 rfl))) (mvT hZ (H 60 rfl)) (mvT hZ (H 59 rfl)) (by decide) (backOf (W := 0) (rmasl l Z a0 hw [] a1 wC h0 n0 Z0 O0 qC q2_) hZ (H 61 rfl) (H 15 rfl) (by decide) (by decide)) qa6 qc6 (g := (own_top pre5)) rfl (by rw [hml]; rfl) (Steps.refl _) (argsL := []) (rest := []) (lenOf pd_7 rfl) rfl (by show 2 * 0 + _ ≤ _; exact Nat.le_of_eq rfl) (hb hby d16_11) (fun _ _ => ⟨rfl, eq4, (by decide : 0 + 0 ≤ _), (by decide : 0 + 0 ≤ _)⟩)
 dsimp only [Pt.U, Pt.locs, Pt.cells, Pt.slots] at X6 l6 y6 z6 st6 hQ6
 subst l6 y6 z6
 obtain ⟨rfl, Nq6, eq6⟩ := hQ6
 have N6 := Fr.app N4 Nq6
 have pre7 : own_Go p e below S0 (T6.setTop (mkF m 18 #[vR a1, vI p2] [(.int p2)])) := by
  intro t kt
  refine pre5 t ?_
  refine st6.trans ?_
  show Steps p.tables e below (T6.setTop (mkF m 14 #[vR a1, vI p2] [(.int 1)])) _
  refine XS.ifNo X6.here hx rfl (hb hby d16_14) rfl ((if0 _ _).trans (feq (by decide : ¬ ((1 : Int32) = (0 : Int32)))).1) ?_
  refine XS.iloadN X6.here hx rfl (hb hby d16_17) rfl ?_
  exact kt
 obtain ⟨_, _, ⟨T8, L8, k8, n8⟩, -, X8, ⟨Lc8, hQ8, l8, y8, z8⟩, st8⟩ := Jvm.LawKit.callS X6 hx (y := own_m24) hown (mvT hZ (H 105 rfl)) (mvT hZ (H 106 rfl)) (mvT hZ (H 107 rfl)) (mvT hZ (H 108 rfl)) (by decide) (backOf (W := 0) (rm18 l Z a0 hw [] p2 h0 n0 Z0 ) hZ (H 108 rfl) (H 107 rfl) (by decide) (by decide)) (g := (own_top pre7)) rfl (by rw [hml]; rfl) (argsL := [(.int p2)]) (rest := []) (lenOf pd_8 rfl) rfl (by show 2 * 0 + _ ≤ _; exact Nat.le_of_eq rfl) (hb hby d16_18) (fun _ _ => ⟨rfl, eq6, (by decide : 0 + 0 ≤ _), (by decide : 0 + 0 ≤ _)⟩)
 dsimp only [Pt.U, Pt.locs, Pt.cells, Pt.slots] at X8 l8 y8 z8 st8 hQ8
 subst l8 y8 z8
 obtain ⟨rfl, Nq8, eq8⟩ := hQ8
 have N8 := Fr.app N6 Nq8
 have pre9 : own_Go p e below S0 (T8.setTop (mkF m 25 #[vR a1, vI p2] [(.ref a1)])) := by
  intro t kt
  refine pre7 t ?_
  refine st8 _ ?_
  show Steps p.tables e below (T8.setTop (mkF m 21 #[vR a1, vI p2] [(.int (own_can p2))])) _
  refine XS.ifNo X8.here hx rfl (hb hby d16_21) rfl ((if0 _ _).trans (feq hcan).1) ?_
  refine XS.aloadN X8.here hx rfl (hb hby d16_24) rfl rfl ?_
  exact kt
 obtain ⟨T10, X10, e10, st10⟩ := getF X8 hx hZ hown (host := "") (Or.inl (H 22 rfl)) Via.refl eq8 q1_ (g := (own_top pre9)) rfl rfl (hb hby d16_25)
 have pre11 : own_Go p e below S0 (T10.setTop (mkF m 30 #[vR a1, vI p2] [(.ref a1), (.ref a1), (.ref va)])) := by
  intro t kt
  refine pre9 t ?_
  refine st10 _ ?_
  refine XS.aloadN X10.here hx rfl (hb hby d16_28) rfl rfl ?_
  refine XS.dup X10.here hx rfl (hb hby d16_29) rfl rfl ?_
  exact kt
 obtain ⟨T12, X12, e12, st12⟩ := getF X10 hx hZ hown (host := "") (Or.inl (H 55 rfl)) Via.refl e10 q3_ (g := (own_top pre11)) rfl rfl (hb hby d16_30)
 have pre13 : own_Go p e below S0 (T12.setTop (mkF m 36 #[vR a1, vI p2] [(.int (u + (1 : Int32))), (.ref a1), (.int u), (.ref va)])) := by
  intro t kt
  refine pre11 t ?_
  refine st12 _ ?_
  refine XS.dupX1 X12.here hx rfl (hb hby d16_33) rfl rfl rfl ?_
  refine XS.iconst X12.here hx rfl (hb hby d16_34) ?_
  refine XS.iadd X12.here hx rfl (hb hby d16_35) rfl ?_
  exact kt
 obtain ⟨T14, h14, X14, e14, W14, st14⟩ := putF X12 hx hZ hown (host := "") (Or.inl (H 55 rfl)) Via.refl e12 q3_ q0_ (Or.inl (H 56 rfl)) (H 6 rfl) (ty := .int) (by decide) rfl rfl (g := (own_top pre13)) rfl rfl (hb hby d16_36)
 have N14 := Fr.snoc X14 N8 q5_
 have zs15 : n0 ≤ h14.size := Nat.le_trans Z0 (Keep.of_wr W14).1
 have kc16 : Keep h0 h14 [a1, va] := kc0.wr W14 (Or.inl (List.mem_of_getElem? (i := 0) rfl))
 have fw14 : Fld Z h14 a1 "java/lang/AbstractStringBuilder" "count" "I" (.int (u + (1 : Int32))) := q3_.same W14
 have pre17 : own_Go p e below S0 (T14.setTop (mkF m 41 #[vR a1, vI p2] [(.int (p2.toInt8.toInt32)), (.int u), (.ref va)])) := by
  intro t kt
  refine pre13 t ?_
  refine st14 _ ?_
  refine XS.iloadN X14.here hx rfl (hb hby d16_39) rfl ?_
  refine XS.i2b X14.here hx rfl (hb hby d16_40) rfl ?_
  exact kt
 have f18 : Arv Z h14 va kv .byte z1 vs (.int 0) := (q4_.other W14 (Ne.symm q7_))
 obtain ⟨cl19, Ar19, q19, Sz19, Ng19, Hs19, Gt19⟩ := id f18
 have hin19 : ¬ (u < 0 ∨ cl19.slots.size ≤ (u).toNatClampNeg) := inb_of Sz19 ⟨hb1, hb2⟩
 obtain ⟨T19, h19, X19, e19, W19, st19⟩ := stB X14 hx hZ e14 Ar19 (j := u) hin19 (g := (own_top pre17)) rfl rfl (hb hby d16_41)
 have N19 := Fr.snoc X19 N14 q6_
 have zs20 : n0 ≤ h19.size := Nat.le_trans zs15 (Keep.of_wr W19).1
 have kc21 : Keep h0 h19 [a1, va] := kc16.wr W19 (Or.inl (List.mem_of_getElem? (i := 1) rfl))
 have V19 : Arv Z h19 va kv .byte z1 (vs.set i (.int (nar .byte (p2.toInt8.toInt32)))) (.int 0) := Arv.set Ar19 q19 Sz19 Ng19 Hs19 Gt19 (fits_nar_byte _) W19 i hi hil
 have pre22 : own_Go p e below S0 (T19.setTop (mkF m 76 #[vR a1, vI p2] [(.ref a1)])) := by
  intro t kt
  refine pre17 t ?_
  refine st19 _ ?_
  refine XS.goto X19.here hx rfl (pc0 := 42) (pc' := 75) rfl (hb hby d16_42) (by decide) (by decide) ?_
  refine XS.aloadN X19.here hx rfl (hb hby d16_75) rfl rfl ?_
  exact kt
 obtain ⟨fs, hr, hrun, hended, hW, hsame⟩ := X19.leave (v := some (.ref a1)) (fun h => by rw [Bd.returns] at h; cases h)
 refine ⟨_, _, fin _ (pre22 _ ?_), hrun, hended, _, _, rfl, ?_, ⟨_, rfl⟩, hW, hsame.mono (by decide) (by decide)⟩
 ·jvm_step X19.here [X19.here.top, hx, (hb hby d16_76), X19.method', Bd.returns, Value.isRef, FieldType.isReference]
  first | (intro acts; rw [hr _ acts rfl rfl rfl]) | rw [hr _ _ rfl rfl rfl]
  exact Steps.refl _
 have f23 : Exa Z h19 a1 "java/lang/StringBuilder" := ((q0_.wr W14).wr W19)
 have f24 : Fld Z h19 a1 "java/lang/AbstractStringBuilder" "value" "[B" (.ref va) := ((q1_.other W14 (Or.inr (slot_ne (Or.inl (H 23 rfl)) (Or.inl (H 56 rfl)) (by decide) (t := (.array .byte)) (t' := .int) (by decide) (by decide)))).other W19 (Or.inl q7_))
 have f25 : Fld Z h19 a1 "java/lang/AbstractStringBuilder" "coder" "B" (.int 0) := ((q2_.other W14 (Or.inr (slot_ne (Or.inl (H 25 rfl)) (Or.inl (H 56 rfl)) (by decide) (t := .byte) (t' := .int) (by decide) (by decide)))).other W19 (Or.inl q7_))
 have f26 : Fld Z h19 a1 "java/lang/AbstractStringBuilder" "count" "I" (.int (u + (1 : Int32))) := (fw14.other W19 (Or.inl q7_))
 ·show QaaN Z a1 p2 wC va kv z1 vs u i h0 n0 _ T19.heap _
  rw [e19]
  exact ⟨rfl, N19, kc21, V19, f23, f24, f25, f26⟩

theorem d15_0 : decode jdk_67_method_14_code 0 = .ok (.aload_n 0, 1) := by decide +kernel
theorem d15_1 : decode jdk_67_method_14_code 1 = .ok (.iload_n 1, 1) := by decide +kernel
theorem d15_2 : decode jdk_67_method_14_code 2 = .ok (.invokespecial 50, 3) := by decide +kernel
theorem d15_5 : decode jdk_67_method_14_code 5 = .ok (.pop, 1) := by decide +kernel
theorem d15_6 : decode jdk_67_method_14_code 6 = .ok (.aload_n 0, 1) := by decide +kernel
theorem d15_7 : decode jdk_67_method_14_code 7 = .ok (.areturn, 1) := by decide +kernel
theorem pn_15 : plainName "java/lang/StringBuilder" = true := by first | (simp [plainName, overriddenIn]; done) | decide +kernel
theorem pd_9 : parseMethodDescriptor "(C)Ljava/lang/AbstractStringBuilder;" = some ⟨[.char], some (.object "java/lang/AbstractStringBuilder")⟩ := by decide +kernel
theorem ef_saN (m : MethodId) (x0 : Addr) (x1 : Int32) : entryFrame m #[(.ref x0), (.int x1)] 2 = mkF m 0 #[vR x0, vI x1] [] := by first | (simp [entryFrame, mkF, argsToLocals, Value.category]; done) | rfl
def QsaN (Z : State) (a1 : Addr) (p2 : Int32) (wC : Int32) (va : Addr) (kv : ClassId) (z1 : Int32) (vs : List Value) (u : Int32) (i : Nat) (h0 : Heap) (n0 : Nat) (v : Option Value) (h : Heap) (L : List Loc) : Prop := v = (some (.ref a1)) ∧ Fr n0 L ∧ Keep h0 h [a1, va] ∧ Arv Z h va kv .byte z1 (vs.set i (.int (nar .byte (p2.toInt8.toInt32)))) (.int 0) ∧ Exa Z h a1 "java/lang/StringBuilder" ∧ Fld Z h a1 "java/lang/AbstractStringBuilder" "value" "[B" (.ref va) ∧ Fld Z h a1 "java/lang/AbstractStringBuilder" "coder" "B" (.int 0) ∧ Fld Z h a1 "java/lang/AbstractStringBuilder" "count" "I" (.int (u + (1 : Int32)))
set_option maxRecDepth 65536 in
set_option maxHeartbeats 40000000 in
theorem rmsaN (l : Launch) (Z : State) (a0 : Array Value) (hw : ∀ d ∈ tables_1, d.before a0 Z = true) (ws : List Jvm.Cond) (a1 : Addr) (p2 : Int32) (wC : Int32) (va : Addr) (kv : ClassId) (z1 : Int32) (vs : List Value) (u : Int32) (i : Nat) (h0 : Heap) (n0 : Nat) (Z0 : n0 ≤ h0.size) (O0 : Old Z n0 h0) (qC : (own_SC Z wC)) (q0_ : Exa Z h0 a1 "java/lang/StringBuilder") (q1_ : Fld Z h0 a1 "java/lang/AbstractStringBuilder" "value" "[B" (.ref va)) (q2_ : Fld Z h0 a1 "java/lang/AbstractStringBuilder" "coder" "B" (.int 0)) (q3_ : Fld Z h0 a1 "java/lang/AbstractStringBuilder" "count" "I" (.int u)) (q4_ : Arv Z h0 va kv .byte z1 vs (.int 0)) (q5_ : n0 ≤ a1) (q6_ : n0 ≤ va) (q7_ : a1 ≠ va) (hb1 : (¬ u < (0 : Int32))) (hb2 : (u < z1)) (hi : (u.toNatClampNeg = i)) (hil : (i < vs.length)) (hle : (¬ (0 : Int32) < ((u + (1 : Int32)) - (z1 >>> ((0 : Int32) &&& 31))))) (hcan : (¬ own_can p2 = (0 : Int32))) :
  MetFree l own_m21 (head1 (Jvm.Cond.code own_m21 jdk_67_method_14_code 2 (some (.object "java/lang/StringBuilder")) :: ws) (own_r 5 1 18 75)) (fun a U => a = #[(.ref a1), (.int p2)] ∧ Z.Warmed39 U.vm ∧ U.heap = h0) (fun _ _ _ _ _ => True) (fun _ U o U' => ∃ v L, o = .returned v ∧ QsaN Z a1 p2 wC va kv z1 vs u i h0 n0 v U'.heap L ∧ FrameEnd U o U' L (own_r 5 1 18 75).cells (own_r 5 1 18 75).slots) := by
 refine MetFree.of_bodySF (plainFor_of_name pn_15) hisR ?_
 intro p e s m args below meth c s₁ Bd hml0 hP hK
 have H : ∀ (i : Nat) {d : Jvm.Cond}, tables_1[i]? = some d → d.before a0 Z = true := fun i _ h => hw _ (own_w i h)
 obtain ⟨rfl, hZ, hh⟩ := hP
 have hx := Bd.exec
 have hby := Bd.bytes
 have hml : c.maxLocals = 2 := hml0
 have hown0 := findClass_of_methodNamed Bd.named
 have hown : s.vm.findClass "java/lang/StringBuilder" = some m.cls := hown0
 have hnm := (name_of_methodNamed Bd.named Bd.method).1
 have X0 : Stand p l e (own_r 5 1 18 75) s m #[(.ref a1), (.int p2)] below meth c s₁ [] 0 0 := Stand.of_body Bd
 have e0 : s₁.heap = h0 := by rw [← hh, Bd.state]; rfl
 have N0 := Fr.nil n0
 obtain ⟨S0, hS0⟩ : ∃ z, z = s₁.setTop (entryFrame m #[(.ref a1), (.int p2)] 2) := ⟨_, rfl⟩
 have pre0 : own_Go p e below S0 (s₁.setTop (mkF m 0 #[vR a1, vI p2] [])) := fun t k => by rw [hS0]; exact castTop (ef_saN m a1 p2) k
 have fin : ∀ t, Steps p.tables e below S0 t → Steps p.tables e below (s₁.setTop (entryFrame m #[(.ref a1), (.int p2)] 2)) t := fun t k => by rw [hS0] at k; exact k
 have kc0 : Keep h0 h0 [a1, va] := Keep.refl _ _
 have pre1 : own_Go p e below S0 (s₁.setTop (mkF m 2 #[vR a1, vI p2] [(.int p2), (.ref a1)])) := by
  intro t kt
  refine pre0 t ?_
  refine XS.aloadN X0.here hx rfl (hb hby d15_0) rfl rfl ?_
  refine XS.iloadN X0.here hx rfl (hb hby d15_1) rfl ?_
  exact kt
 obtain ⟨_, _, ⟨T2, L2, k2, n2⟩, -, X2, ⟨Lc2, hQ2, l2, y2, z2⟩, st2⟩ := superBack X0 hx hZ (y := own_m5) hown (H 95 rfl) (own_same (C := "java/lang/StringBuilder") (w := own_m7) (z := own_m7) rfl (by decide) (H 44 rfl) (H 96 rfl)) (H 96 rfl) (H 53 rfl) (by decide) (backOf (W := 0) (rmaaN l Z a0 hw [] a1 p2 wC va kv z1 vs u i h0 n0 Z0 O0 qC q0_ q1_ q2_ q3_ q4_ q5_ q6_ q7_ hb1 hb2 hi hil hle hcan) hZ (H 98 rfl) (H 15 rfl) (by decide) (by decide)) e0 (Ins.self q0_) (g := (own_top pre1)) rfl (by rw [hml]; rfl) (H 98 rfl) (a := a1) (argsL := [(.int p2)]) (rest := []) (lenOf pd_9 rfl) rfl (by show 2 * 0 + _ ≤ _; exact Nat.le_of_eq rfl) (hb hby d15_2) (fun _ _ => ⟨rfl, e0, (by decide : 0 + 0 ≤ _), (by decide : 0 + 0 ≤ _)⟩)
 dsimp only [Pt.U, Pt.locs, Pt.cells, Pt.slots] at X2 l2 y2 z2 st2 hQ2
 subst l2 y2 z2
 obtain ⟨rfl, Nq2, K2, g3, g4, g5, g6, g7⟩ := hQ2
 have N2 := Fr.app N0 Nq2
 have zs8 : n0 ≤ T2.heap.size := Nat.le_trans Z0 K2.1
 have kc9 : Keep h0 T2.heap [a1, va] := kc0.trans K2 (allS (Or.inl (List.mem_of_getElem? (i := 0) rfl)) (allS (Or.inl (List.mem_of_getElem? (i := 1) rfl)) all0))
 have pre10 : own_Go p e below S0 (T2.setTop (mkF m 7 #[vR a1, vI p2] [(.ref a1)])) := by
  intro t kt
  refine pre1 t ?_
  refine st2.trans ?_
  show Steps p.tables e below (T2.setTop (mkF m 5 #[vR a1, vI p2] [(.ref a1)])) _
  refine XS.pop X2.here hx rfl (hb hby d15_5) rfl rfl ?_
  refine XS.aloadN X2.here hx rfl (hb hby d15_6) rfl rfl ?_
  exact kt
 obtain ⟨fs, hr, hrun, hended, hW, hsame⟩ := X2.leave (v := some (.ref a1)) (fun h => by rw [Bd.returns] at h; cases h)
 refine ⟨_, _, fin _ (pre10 _ ?_), hrun, hended, _, _, rfl, ?_, ⟨_, rfl⟩, hW, hsame.mono (by decide) (by decide)⟩
 ·jvm_step X2.here [X2.here.top, hx, (hb hby d15_7), X2.method', Bd.returns, Value.isRef, FieldType.isReference]
  first | (intro acts; rw [hr _ acts rfl rfl rfl]) | rw [hr _ _ rfl rfl rfl]
  exact Steps.refl _
 ·show QsaN Z a1 p2 wC va kv z1 vs u i h0 n0 _ T2.heap _
  exact ⟨rfl, N2, kc9, g3, g4, g5, g6, g7⟩

theorem ef_aaG1 (m : MethodId) (x0 : Addr) (x1 : Int32) : entryFrame m #[(.ref x0), (.int x1)] 2 = mkF m 0 #[vR x0, vI x1] [] := by first | (simp [entryFrame, mkF, argsToLocals, Value.category]; done) | rfl
def QaaG1 (Z : State) (a1 : Addr) (p2 : Int32) (wC : Int32) (va : Addr) (kv : ClassId) (v0 : Value) (h0 : Heap) (n0 : Nat) (v : Option Value) (h : Heap) (L : List Loc) : Prop := ∃ b : Addr, ∃ kb : ClassId, v = (some (.ref a1)) ∧ Fr n0 L ∧ Keep h0 h [a1] ∧ h0.size ≤ b ∧ Exa Z h b "[B" ∧ Arv Z h b kb .byte (4 : Int32) [v0, (.int (nar .byte (p2.toInt8.toInt32))), (.int 0), (.int 0)] (.int 0) ∧ Exa Z h a1 "java/lang/StringBuilder" ∧ Fld Z h a1 "java/lang/AbstractStringBuilder" "value" "[B" (.ref b) ∧ Fld Z h a1 "java/lang/AbstractStringBuilder" "coder" "B" (.int 0) ∧ Fld Z h a1 "java/lang/AbstractStringBuilder" "count" "I" (.int 2)
set_option maxRecDepth 65536 in
set_option maxHeartbeats 40000000 in
theorem rmaaG1 (l : Launch) (Z : State) (a0 : Array Value) (hw : ∀ d ∈ tables_1, d.before a0 Z = true) (ws : List Jvm.Cond) (a1 : Addr) (p2 : Int32) (wC : Int32) (va : Addr) (kv : ClassId) (v0 : Value) (h0 : Heap) (n0 : Nat) (Z0 : n0 ≤ h0.size) (O0 : Old Z n0 h0) (qC : (own_SC Z wC)) (q0_ : Exa Z h0 a1 "java/lang/StringBuilder") (q1_ : Fld Z h0 a1 "java/lang/AbstractStringBuilder" "value" "[B" (.ref va)) (q2_ : Fld Z h0 a1 "java/lang/AbstractStringBuilder" "coder" "B" (.int 0)) (q3_ : Fld Z h0 a1 "java/lang/AbstractStringBuilder" "count" "I" (.int 1)) (q4_ : Arv Z h0 va kv .byte (1 : Int32) [v0] (.int 0)) (q5_ : n0 ≤ a1) (q6_ : a1 ≠ va) (hcan : (¬ own_can p2 = (0 : Int32))) :
  MetFree l own_m5 (head1 (Jvm.Cond.code own_m5 jdk_68_method_31_code 2 (some (.object "java/lang/AbstractStringBuilder")) :: ws) (own_r 4 1 4 62)) (fun a U => a = #[(.ref a1), (.int p2)] ∧ Z.Warmed39 U.vm ∧ U.heap = h0) (fun _ _ _ _ _ => True) (fun _ U o U' => ∃ v L, o = .returned v ∧ QaaG1 Z a1 p2 wC va kv v0 h0 n0 v U'.heap L ∧ FrameEnd U o U' L (own_r 4 1 4 62).cells (own_r 4 1 4 62).slots) := by
 refine MetFree.of_bodySF (plainFor_of_name pn_16) hisR ?_
 intro p e s m args below meth c s₁ Bd hml0 hP hK
 have H : ∀ (i : Nat) {d : Jvm.Cond}, tables_1[i]? = some d → d.before a0 Z = true := fun i _ h => hw _ (own_w i h)
 obtain ⟨rfl, hZ, hh⟩ := hP
 have hx := Bd.exec
 have hby := Bd.bytes
 have hml : c.maxLocals = 2 := hml0
 have hown0 := findClass_of_methodNamed Bd.named
 have hown : s.vm.findClass "java/lang/AbstractStringBuilder" = some m.cls := hown0
 have hnm := (name_of_methodNamed Bd.named Bd.method).1
 have X0 : Stand p l e (own_r 4 1 4 62) s m #[(.ref a1), (.int p2)] below meth c s₁ [] 0 0 := Stand.of_body Bd
 have e0 : s₁.heap = h0 := by rw [← hh, Bd.state]; rfl
 have N0 := Fr.nil n0
 obtain ⟨S0, hS0⟩ : ∃ z, z = s₁.setTop (entryFrame m #[(.ref a1), (.int p2)] 2) := ⟨_, rfl⟩
 have pre0 : own_Go p e below S0 (s₁.setTop (mkF m 0 #[vR a1, vI p2] [])) := fun t k => by rw [hS0]; exact castTop (ef_aaG1 m a1 p2) k
 have fin : ∀ t, Steps p.tables e below S0 t → Steps p.tables e below (s₁.setTop (entryFrame m #[(.ref a1), (.int p2)] 2)) t := fun t k => by rw [hS0] at k; exact k
 have kc0 : Keep h0 h0 [a1] := Keep.refl _ _
 have pre1 : own_Go p e below S0 (s₁.setTop (mkF m 2 #[vR a1, vI p2] [(.ref a1), (.ref a1)])) := by
  intro t kt
  refine pre0 t ?_
  refine XS.aloadN X0.here hx rfl (hb hby d16_0) rfl rfl ?_
  refine XS.aloadN X0.here hx rfl (hb hby d16_1) rfl rfl ?_
  exact kt
 obtain ⟨T2, X2, e2, st2⟩ := getF X0 hx hZ hown (host := "") (Or.inl (H 55 rfl)) Via.refl e0 q3_ (g := (own_top pre1)) rfl rfl (hb hby d16_2)
 have pre3 : own_Go p e below S0 (T2.setTop (mkF m 7 #[vR a1, vI p2] [(.int 2), (.ref a1)])) := by
  intro t kt
  refine pre1 t ?_
  refine st2 _ ?_
  refine XS.iconst X2.here hx rfl (hb hby d16_5) ?_
  refine XS.iadd X2.here hx rfl (hb hby d16_6) rfl ?_
  exact kt
 obtain ⟨cq4, qa4, qb4⟩ := q0_.cell
 obtain ⟨_, _, ⟨T4, L4, k4, n4⟩, -, X4, ⟨Lc4, hQ4, l4, y4, z4⟩, st4⟩ := X2.privateBack hx (y := own_m6) hown (mvT hZ (H 99 rfl)) (mvT hZ (H 100 rfl)) (own_selPriv3 (C := "java/lang/StringBuilder") (by decide) (mvT hZ (H 102 rfl)) (mvP hZ (H 101 rfl)) (mvT hZ (H 100 rfl))) (Cond.privateMethod_at (mvP hZ (H 101 rfl) (args := #[]))) (mvT hZ (H 103 rfl)) (by decide) (backOf (W := 0) (rmensG1 l Z a0 hw [] a1 va kv v0 h0 n0 Z0 q0_ q1_ q2_ q3_ q4_ q5_ q6_) hZ (H 103 rfl) (H 15 rfl) (by decide) (by decide)) (g := (own_top pre3)) rfl (by rw [hml]; rfl) (Steps.refl _) (a := a1) (by rw [e2]; exact qa4) qb4 (argsL := [(.int 2)]) (rest := []) (lenOf pd_4 rfl) rfl (by show 2 * 0 + _ ≤ _; exact Nat.le_of_eq rfl) (hb hby d16_7) (fun _ _ => ⟨rfl, e2, (by decide : 0 + 1 ≤ _), (by decide : 0 + 4 ≤ _)⟩)
 dsimp only [Pt.U, Pt.locs, Pt.cells, Pt.slots] at X4 l4 y4 z4 st4 hQ4
 subst l4 y4 z4
 obtain ⟨b5, kb6, rfl, Nq4, K4, g7, g8, g9, g10, g11, g12, g13⟩ := hQ4
 have N4 := Fr.app N0 Nq4
 have ne14 : a1 ≠ b5 := Nat.ne_of_lt (Nat.lt_of_lt_of_le q0_.lt g7)
 have ne15 : va ≠ b5 := Nat.ne_of_lt (Nat.lt_of_lt_of_le q4_.lt g7)
 have ge16 : n0 ≤ b5 := Nat.le_trans Z0 g7
 have sz17 : h0.size ≤ b5 := Nat.le_trans kc0.1 g7
 have zs18 : n0 ≤ T4.heap.size := Nat.le_trans Z0 K4.1
 have kc19 : Keep h0 T4.heap [a1] := kc0.trans K4 (allS (Or.inl (List.mem_of_getElem? (i := 0) rfl)) all0)
 have pre20 : own_Go p e below S0 (T4.setTop (mkF m 11 #[vR a1, vI p2] [(.ref a1)])) := by
  intro t kt
  refine pre3 t ?_
  refine st4.trans ?_
  show Steps p.tables e below (T4.setTop (mkF m 10 #[vR a1, vI p2] [])) _
  refine XS.aloadN X4.here hx rfl (hb hby d16_10) rfl rfl ?_
  exact kt
 have f21 : Old Z n0 T4.heap := (O0.keep K4 (allS q5_ all0))
 obtain ⟨cq22, kq22, qa22, qb22, qc22⟩ := isOf hZ rfl g10
 obtain ⟨_, _, ⟨T22, L22, k22, n22⟩, -, X22, ⟨Lc22, hQ22, l22, y22, z22⟩, st22⟩ := X4.virtualBack hx (y := own_m8) (z := own_m8) hown (mvT hZ (H 104 rfl)) (mvT hZ (H 58 rfl)) (notFace_of_selects (args := #[]) (mvT hZ (H 60 rfl))) (mvT hZ (H 60 rfl)) (mvT hZ (H 59 rfl)) (by decide) (backOf (W := 0) (rmasl l Z a0 hw [] a1 wC T4.heap n0 zs18 f21 qC g12) hZ (H 61 rfl) (H 15 rfl) (by decide) (by decide)) qa22 qc22 (g := (own_top pre20)) rfl (by rw [hml]; rfl) (Steps.refl _) (argsL := []) (rest := []) (lenOf pd_7 rfl) rfl (by show 2 * 0 + _ ≤ _; exact Nat.le_of_eq rfl) (hb hby d16_11) (fun _ _ => ⟨rfl, rfl, (by decide : 1 + 0 ≤ _), (by decide : 4 + 0 ≤ _)⟩)
 dsimp only [Pt.U, Pt.locs, Pt.cells, Pt.slots] at X22 l22 y22 z22 st22 hQ22
 subst l22 y22 z22
 obtain ⟨rfl, Nq22, eq22⟩ := hQ22
 have N22 := Fr.app N4 Nq22
 have pre23 : own_Go p e below S0 (T22.setTop (mkF m 18 #[vR a1, vI p2] [(.int p2)])) := by
  intro t kt
  refine pre20 t ?_
  refine st22.trans ?_
  show Steps p.tables e below (T22.setTop (mkF m 14 #[vR a1, vI p2] [(.int 1)])) _
  refine XS.ifNo X22.here hx rfl (hb hby d16_14) rfl ((if0 _ _).trans (feq (by decide : ¬ ((1 : Int32) = (0 : Int32)))).1) ?_
  refine XS.iloadN X22.here hx rfl (hb hby d16_17) rfl ?_
  exact kt
 obtain ⟨_, _, ⟨T24, L24, k24, n24⟩, -, X24, ⟨Lc24, hQ24, l24, y24, z24⟩, st24⟩ := Jvm.LawKit.callS X22 hx (y := own_m24) hown (mvT hZ (H 105 rfl)) (mvT hZ (H 106 rfl)) (mvT hZ (H 107 rfl)) (mvT hZ (H 108 rfl)) (by decide) (backOf (W := 0) (rm18 l Z a0 hw [] p2 T4.heap n0 zs18 ) hZ (H 108 rfl) (H 107 rfl) (by decide) (by decide)) (g := (own_top pre23)) rfl (by rw [hml]; rfl) (argsL := [(.int p2)]) (rest := []) (lenOf pd_8 rfl) rfl (by show 2 * 0 + _ ≤ _; exact Nat.le_of_eq rfl) (hb hby d16_18) (fun _ _ => ⟨rfl, eq22, (by decide : 1 + 0 ≤ _), (by decide : 4 + 0 ≤ _)⟩)
 dsimp only [Pt.U, Pt.locs, Pt.cells, Pt.slots] at X24 l24 y24 z24 st24 hQ24
 subst l24 y24 z24
 obtain ⟨rfl, Nq24, eq24⟩ := hQ24
 have N24 := Fr.app N22 Nq24
 have pre25 : own_Go p e below S0 (T24.setTop (mkF m 25 #[vR a1, vI p2] [(.ref a1)])) := by
  intro t kt
  refine pre23 t ?_
  refine st24 _ ?_
  show Steps p.tables e below (T24.setTop (mkF m 21 #[vR a1, vI p2] [(.int (own_can p2))])) _
  refine XS.ifNo X24.here hx rfl (hb hby d16_21) rfl ((if0 _ _).trans (feq hcan).1) ?_
  refine XS.aloadN X24.here hx rfl (hb hby d16_24) rfl rfl ?_
  exact kt
 obtain ⟨T26, X26, e26, st26⟩ := getF X24 hx hZ hown (host := "") (Or.inl (H 22 rfl)) Via.refl eq24 g11 (g := (own_top pre25)) rfl rfl (hb hby d16_25)
 have pre27 : own_Go p e below S0 (T26.setTop (mkF m 30 #[vR a1, vI p2] [(.ref a1), (.ref a1), (.ref b5)])) := by
  intro t kt
  refine pre25 t ?_
  refine st26 _ ?_
  refine XS.aloadN X26.here hx rfl (hb hby d16_28) rfl rfl ?_
  refine XS.dup X26.here hx rfl (hb hby d16_29) rfl rfl ?_
  exact kt
 obtain ⟨T28, X28, e28, st28⟩ := getF X26 hx hZ hown (host := "") (Or.inl (H 55 rfl)) Via.refl e26 g13 (g := (own_top pre27)) rfl rfl (hb hby d16_30)
 have pre29 : own_Go p e below S0 (T28.setTop (mkF m 36 #[vR a1, vI p2] [(.int 2), (.ref a1), (.int 1), (.ref b5)])) := by
  intro t kt
  refine pre27 t ?_
  refine st28 _ ?_
  refine XS.dupX1 X28.here hx rfl (hb hby d16_33) rfl rfl rfl ?_
  refine XS.iconst X28.here hx rfl (hb hby d16_34) ?_
  refine XS.iadd X28.here hx rfl (hb hby d16_35) rfl ?_
  exact kt
 obtain ⟨T30, h30, X30, e30, W30, st30⟩ := putF X28 hx hZ hown (host := "") (Or.inl (H 55 rfl)) Via.refl e28 g13 g10 (Or.inl (H 56 rfl)) (H 6 rfl) (ty := .int) (by decide) rfl rfl (g := (own_top pre29)) rfl rfl (hb hby d16_36)
 have N30 := Fr.snoc X30 N24 q5_
 have zs31 : n0 ≤ h30.size := Nat.le_trans zs18 (Keep.of_wr W30).1
 have kc32 : Keep h0 h30 [a1] := kc19.wr W30 (Or.inl (List.mem_of_getElem? (i := 0) rfl))
 have fw30 : Fld Z h30 a1 "java/lang/AbstractStringBuilder" "count" "I" (.int 2) := g13.same W30
 have pre33 : own_Go p e below S0 (T30.setTop (mkF m 41 #[vR a1, vI p2] [(.int (p2.toInt8.toInt32)), (.int 1), (.ref b5)])) := by
  intro t kt
  refine pre29 t ?_
  refine st30 _ ?_
  refine XS.iloadN X30.here hx rfl (hb hby d16_39) rfl ?_
  refine XS.i2b X30.here hx rfl (hb hby d16_40) rfl ?_
  exact kt
 have f34 : Arv Z h30 b5 kb6 .byte (4 : Int32) [v0, (.int 0), (.int 0), (.int 0)] (.int 0) := (g9.other W30 (Ne.symm ne14))
 obtain ⟨cl35, Ar35, q35, Sz35, Ng35, Hs35, Gt35⟩ := id f34
 have hin35 : ¬ ((1 : Int32) < 0 ∨ cl35.slots.size ≤ ((1 : Int32)).toNatClampNeg) := inb_of Sz35 ⟨by decide, by decide⟩
 obtain ⟨T35, h35, X35, e35, W35, st35⟩ := stB X30 hx hZ e30 Ar35 (j := (1 : Int32)) hin35 (g := (own_top pre33)) rfl rfl (hb hby d16_41)
 have N35 := Fr.snoc X35 N30 ge16
 have zs36 : n0 ≤ h35.size := Nat.le_trans zs31 (Keep.of_wr W35).1
 have kc37 : Keep h0 h35 [a1] := kc32.wr W35 (Or.inr sz17)
 have V35 : Arv Z h35 b5 kb6 .byte (4 : Int32) [v0, (.int (nar .byte (p2.toInt8.toInt32))), (.int 0), (.int 0)] (.int 0) := Arv.set Ar35 q35 Sz35 Ng35 Hs35 Gt35 (fits_nar_byte _) W35 1 rfl (Nat.le_of_ble_eq_true rfl)
 have pre38 : own_Go p e below S0 (T35.setTop (mkF m 76 #[vR a1, vI p2] [(.ref a1)])) := by
  intro t kt
  refine pre33 t ?_
  refine st35 _ ?_
  refine XS.goto X35.here hx rfl (pc0 := 42) (pc' := 75) rfl (hb hby d16_42) (by decide) (by decide) ?_
  refine XS.aloadN X35.here hx rfl (hb hby d16_75) rfl rfl ?_
  exact kt
 obtain ⟨fs, hr, hrun, hended, hW, hsame⟩ := X35.leave (v := some (.ref a1)) (fun h => by rw [Bd.returns] at h; cases h)
 refine ⟨_, _, fin _ (pre38 _ ?_), hrun, hended, _, _, rfl, ?_, ⟨_, rfl⟩, hW, hsame.mono (by decide) (by decide)⟩
 ·jvm_step X35.here [X35.here.top, hx, (hb hby d16_76), X35.method', Bd.returns, Value.isRef, FieldType.isReference]
  first | (intro acts; rw [hr _ acts rfl rfl rfl]) | rw [hr _ _ rfl rfl rfl]
  exact Steps.refl _
 have f39 : Exa Z h35 b5 "[B" := ((g8.wr W30).wr W35)
 have f40 : Exa Z h35 a1 "java/lang/StringBuilder" := ((g10.wr W30).wr W35)
 have f41 : Fld Z h35 a1 "java/lang/AbstractStringBuilder" "value" "[B" (.ref b5) := ((g11.other W30 (Or.inr (slot_ne (Or.inl (H 23 rfl)) (Or.inl (H 56 rfl)) (by decide) (t := (.array .byte)) (t' := .int) (by decide) (by decide)))).other W35 (Or.inl ne14))
 have f42 : Fld Z h35 a1 "java/lang/AbstractStringBuilder" "coder" "B" (.int 0) := ((g12.other W30 (Or.inr (slot_ne (Or.inl (H 25 rfl)) (Or.inl (H 56 rfl)) (by decide) (t := .byte) (t' := .int) (by decide) (by decide)))).other W35 (Or.inl ne14))
 have f43 : Fld Z h35 a1 "java/lang/AbstractStringBuilder" "count" "I" (.int 2) := (fw30.other W35 (Or.inl ne14))
 ·show QaaG1 Z a1 p2 wC va kv v0 h0 n0 _ T35.heap _
  rw [e35]
  exact ⟨b5, kb6, rfl, N35, kc37, sz17, f39, V35, f40, f41, f42, f43⟩

theorem ef_saG1 (m : MethodId) (x0 : Addr) (x1 : Int32) : entryFrame m #[(.ref x0), (.int x1)] 2 = mkF m 0 #[vR x0, vI x1] [] := by first | (simp [entryFrame, mkF, argsToLocals, Value.category]; done) | rfl
def QsaG1 (Z : State) (a1 : Addr) (p2 : Int32) (wC : Int32) (va : Addr) (kv : ClassId) (v0 : Value) (h0 : Heap) (n0 : Nat) (v : Option Value) (h : Heap) (L : List Loc) : Prop := ∃ b : Addr, ∃ kb : ClassId, v = (some (.ref a1)) ∧ Fr n0 L ∧ Keep h0 h [a1] ∧ h0.size ≤ b ∧ Exa Z h b "[B" ∧ Arv Z h b kb .byte (4 : Int32) [v0, (.int (nar .byte (p2.toInt8.toInt32))), (.int 0), (.int 0)] (.int 0) ∧ Exa Z h a1 "java/lang/StringBuilder" ∧ Fld Z h a1 "java/lang/AbstractStringBuilder" "value" "[B" (.ref b) ∧ Fld Z h a1 "java/lang/AbstractStringBuilder" "coder" "B" (.int 0) ∧ Fld Z h a1 "java/lang/AbstractStringBuilder" "count" "I" (.int 2)
set_option maxRecDepth 65536 in
set_option maxHeartbeats 40000000 in
theorem rmsaG1 (l : Launch) (Z : State) (a0 : Array Value) (hw : ∀ d ∈ tables_1, d.before a0 Z = true) (ws : List Jvm.Cond) (a1 : Addr) (p2 : Int32) (wC : Int32) (va : Addr) (kv : ClassId) (v0 : Value) (h0 : Heap) (n0 : Nat) (Z0 : n0 ≤ h0.size) (O0 : Old Z n0 h0) (qC : (own_SC Z wC)) (q0_ : Exa Z h0 a1 "java/lang/StringBuilder") (q1_ : Fld Z h0 a1 "java/lang/AbstractStringBuilder" "value" "[B" (.ref va)) (q2_ : Fld Z h0 a1 "java/lang/AbstractStringBuilder" "coder" "B" (.int 0)) (q3_ : Fld Z h0 a1 "java/lang/AbstractStringBuilder" "count" "I" (.int 1)) (q4_ : Arv Z h0 va kv .byte (1 : Int32) [v0] (.int 0)) (q5_ : n0 ≤ a1) (q6_ : a1 ≠ va) (hcan : (¬ own_can p2 = (0 : Int32))) :
  MetFree l own_m21 (head1 (Jvm.Cond.code own_m21 jdk_67_method_14_code 2 (some (.object "java/lang/StringBuilder")) :: ws) (own_r 5 1 18 75)) (fun a U => a = #[(.ref a1), (.int p2)] ∧ Z.Warmed39 U.vm ∧ U.heap = h0) (fun _ _ _ _ _ => True) (fun _ U o U' => ∃ v L, o = .returned v ∧ QsaG1 Z a1 p2 wC va kv v0 h0 n0 v U'.heap L ∧ FrameEnd U o U' L (own_r 5 1 18 75).cells (own_r 5 1 18 75).slots) := by
 refine MetFree.of_bodySF (plainFor_of_name pn_15) hisR ?_
 intro p e s m args below meth c s₁ Bd hml0 hP hK
 have H : ∀ (i : Nat) {d : Jvm.Cond}, tables_1[i]? = some d → d.before a0 Z = true := fun i _ h => hw _ (own_w i h)
 obtain ⟨rfl, hZ, hh⟩ := hP
 have hx := Bd.exec
 have hby := Bd.bytes
 have hml : c.maxLocals = 2 := hml0
 have hown0 := findClass_of_methodNamed Bd.named
 have hown : s.vm.findClass "java/lang/StringBuilder" = some m.cls := hown0
 have hnm := (name_of_methodNamed Bd.named Bd.method).1
 have X0 : Stand p l e (own_r 5 1 18 75) s m #[(.ref a1), (.int p2)] below meth c s₁ [] 0 0 := Stand.of_body Bd
 have e0 : s₁.heap = h0 := by rw [← hh, Bd.state]; rfl
 have N0 := Fr.nil n0
 obtain ⟨S0, hS0⟩ : ∃ z, z = s₁.setTop (entryFrame m #[(.ref a1), (.int p2)] 2) := ⟨_, rfl⟩
 have pre0 : own_Go p e below S0 (s₁.setTop (mkF m 0 #[vR a1, vI p2] [])) := fun t k => by rw [hS0]; exact castTop (ef_saG1 m a1 p2) k
 have fin : ∀ t, Steps p.tables e below S0 t → Steps p.tables e below (s₁.setTop (entryFrame m #[(.ref a1), (.int p2)] 2)) t := fun t k => by rw [hS0] at k; exact k
 have kc0 : Keep h0 h0 [a1] := Keep.refl _ _
 have pre1 : own_Go p e below S0 (s₁.setTop (mkF m 2 #[vR a1, vI p2] [(.int p2), (.ref a1)])) := by
  intro t kt
  refine pre0 t ?_
  refine XS.aloadN X0.here hx rfl (hb hby d15_0) rfl rfl ?_
  refine XS.iloadN X0.here hx rfl (hb hby d15_1) rfl ?_
  exact kt
 obtain ⟨_, _, ⟨T2, L2, k2, n2⟩, -, X2, ⟨Lc2, hQ2, l2, y2, z2⟩, st2⟩ := superBack X0 hx hZ (y := own_m5) hown (H 95 rfl) (own_same (C := "java/lang/StringBuilder") (w := own_m7) (z := own_m7) rfl (by decide) (H 44 rfl) (H 96 rfl)) (H 96 rfl) (H 53 rfl) (by decide) (backOf (W := 0) (rmaaG1 l Z a0 hw [] a1 p2 wC va kv v0 h0 n0 Z0 O0 qC q0_ q1_ q2_ q3_ q4_ q5_ q6_ hcan) hZ (H 98 rfl) (H 15 rfl) (by decide) (by decide)) e0 (Ins.self q0_) (g := (own_top pre1)) rfl (by rw [hml]; rfl) (H 98 rfl) (a := a1) (argsL := [(.int p2)]) (rest := []) (lenOf pd_9 rfl) rfl (by show 2 * 0 + _ ≤ _; exact Nat.le_of_eq rfl) (hb hby d15_2) (fun _ _ => ⟨rfl, e0, (by decide : 0 + 1 ≤ _), (by decide : 0 + 4 ≤ _)⟩)
 dsimp only [Pt.U, Pt.locs, Pt.cells, Pt.slots] at X2 l2 y2 z2 st2 hQ2
 subst l2 y2 z2
 obtain ⟨b3, kb4, rfl, Nq2, K2, g5, g6, g7, g8, g9, g10, g11⟩ := hQ2
 have N2 := Fr.app N0 Nq2
 have ne12 : a1 ≠ b3 := Nat.ne_of_lt (Nat.lt_of_lt_of_le q0_.lt g5)
 have ne13 : va ≠ b3 := Nat.ne_of_lt (Nat.lt_of_lt_of_le q4_.lt g5)
 have ge14 : n0 ≤ b3 := Nat.le_trans Z0 g5
 have sz15 : h0.size ≤ b3 := Nat.le_trans kc0.1 g5
 have zs16 : n0 ≤ T2.heap.size := Nat.le_trans Z0 K2.1
 have kc17 : Keep h0 T2.heap [a1] := kc0.trans K2 (allS (Or.inl (List.mem_of_getElem? (i := 0) rfl)) all0)
 have pre18 : own_Go p e below S0 (T2.setTop (mkF m 7 #[vR a1, vI p2] [(.ref a1)])) := by
  intro t kt
  refine pre1 t ?_
  refine st2.trans ?_
  show Steps p.tables e below (T2.setTop (mkF m 5 #[vR a1, vI p2] [(.ref a1)])) _
  refine XS.pop X2.here hx rfl (hb hby d15_5) rfl rfl ?_
  refine XS.aloadN X2.here hx rfl (hb hby d15_6) rfl rfl ?_
  exact kt
 obtain ⟨fs, hr, hrun, hended, hW, hsame⟩ := X2.leave (v := some (.ref a1)) (fun h => by rw [Bd.returns] at h; cases h)
 refine ⟨_, _, fin _ (pre18 _ ?_), hrun, hended, _, _, rfl, ?_, ⟨_, rfl⟩, hW, hsame.mono (by decide) (by decide)⟩
 ·jvm_step X2.here [X2.here.top, hx, (hb hby d15_7), X2.method', Bd.returns, Value.isRef, FieldType.isReference]
  first | (intro acts; rw [hr _ acts rfl rfl rfl]) | rw [hr _ _ rfl rfl rfl]
  exact Steps.refl _
 ·show QsaG1 Z a1 p2 wC va kv v0 h0 n0 _ T2.heap _
  exact ⟨b3, kb4, rfl, N2, kc17, sz15, g6, g7, g8, g9, g10, g11⟩

theorem ef_aaG2 (m : MethodId) (x0 : Addr) (x1 : Int32) : entryFrame m #[(.ref x0), (.int x1)] 2 = mkF m 0 #[vR x0, vI x1] [] := by first | (simp [entryFrame, mkF, argsToLocals, Value.category]; done) | rfl
def QaaG2 (Z : State) (a1 : Addr) (p2 : Int32) (wC : Int32) (va : Addr) (kv : ClassId) (v0 : Value) (v1 : Value) (h0 : Heap) (n0 : Nat) (v : Option Value) (h : Heap) (L : List Loc) : Prop := ∃ b : Addr, ∃ kb : ClassId, v = (some (.ref a1)) ∧ Fr n0 L ∧ Keep h0 h [a1] ∧ h0.size ≤ b ∧ Exa Z h b "[B" ∧ Arv Z h b kb .byte (6 : Int32) [v0, v1, (.int (nar .byte (p2.toInt8.toInt32))), (.int 0), (.int 0), (.int 0)] (.int 0) ∧ Exa Z h a1 "java/lang/StringBuilder" ∧ Fld Z h a1 "java/lang/AbstractStringBuilder" "value" "[B" (.ref b) ∧ Fld Z h a1 "java/lang/AbstractStringBuilder" "coder" "B" (.int 0) ∧ Fld Z h a1 "java/lang/AbstractStringBuilder" "count" "I" (.int 3)
set_option maxRecDepth 65536 in
set_option maxHeartbeats 40000000 in
theorem rmaaG2 (l : Launch) (Z : State) (a0 : Array Value) (hw : ∀ d ∈ tables_1, d.before a0 Z = true) (ws : List Jvm.Cond) (a1 : Addr) (p2 : Int32) (wC : Int32) (va : Addr) (kv : ClassId) (v0 : Value) (v1 : Value) (h0 : Heap) (n0 : Nat) (Z0 : n0 ≤ h0.size) (O0 : Old Z n0 h0) (qC : (own_SC Z wC)) (q0_ : Exa Z h0 a1 "java/lang/StringBuilder") (q1_ : Fld Z h0 a1 "java/lang/AbstractStringBuilder" "value" "[B" (.ref va)) (q2_ : Fld Z h0 a1 "java/lang/AbstractStringBuilder" "coder" "B" (.int 0)) (q3_ : Fld Z h0 a1 "java/lang/AbstractStringBuilder" "count" "I" (.int 2)) (q4_ : Arv Z h0 va kv .byte (2 : Int32) [v0, v1] (.int 0)) (q5_ : n0 ≤ a1) (q6_ : a1 ≠ va) (hcan : (¬ own_can p2 = (0 : Int32))) :
  MetFree l own_m5 (head1 (Jvm.Cond.code own_m5 jdk_68_method_31_code 2 (some (.object "java/lang/AbstractStringBuilder")) :: ws) (own_r 4 1 6 62)) (fun a U => a = #[(.ref a1), (.int p2)] ∧ Z.Warmed39 U.vm ∧ U.heap = h0) (fun _ _ _ _ _ => True) (fun _ U o U' => ∃ v L, o = .returned v ∧ QaaG2 Z a1 p2 wC va kv v0 v1 h0 n0 v U'.heap L ∧ FrameEnd U o U' L (own_r 4 1 6 62).cells (own_r 4 1 6 62).slots) := by
 refine MetFree.of_bodySF (plainFor_of_name pn_16) hisR ?_
 intro p e s m args below meth c s₁ Bd hml0 hP hK
 have H : ∀ (i : Nat) {d : Jvm.Cond}, tables_1[i]? = some d → d.before a0 Z = true := fun i _ h => hw _ (own_w i h)
 obtain ⟨rfl, hZ, hh⟩ := hP
 have hx := Bd.exec
 have hby := Bd.bytes
 have hml : c.maxLocals = 2 := hml0
 have hown0 := findClass_of_methodNamed Bd.named
 have hown : s.vm.findClass "java/lang/AbstractStringBuilder" = some m.cls := hown0
 have hnm := (name_of_methodNamed Bd.named Bd.method).1
 have X0 : Stand p l e (own_r 4 1 6 62) s m #[(.ref a1), (.int p2)] below meth c s₁ [] 0 0 := Stand.of_body Bd
 have e0 : s₁.heap = h0 := by rw [← hh, Bd.state]; rfl
 have N0 := Fr.nil n0
 obtain ⟨S0, hS0⟩ : ∃ z, z = s₁.setTop (entryFrame m #[(.ref a1), (.int p2)] 2) := ⟨_, rfl⟩
 have pre0 : own_Go p e below S0 (s₁.setTop (mkF m 0 #[vR a1, vI p2] [])) := fun t k => by rw [hS0]; exact castTop (ef_aaG2 m a1 p2) k
 have fin : ∀ t, Steps p.tables e below S0 t → Steps p.tables e below (s₁.setTop (entryFrame m #[(.ref a1), (.int p2)] 2)) t := fun t k => by rw [hS0] at k; exact k
 have kc0 : Keep h0 h0 [a1] := Keep.refl _ _
 have pre1 : own_Go p e below S0 (s₁.setTop (mkF m 2 #[vR a1, vI p2] [(.ref a1), (.ref a1)])) := by
  intro t kt
  refine pre0 t ?_
  refine XS.aloadN X0.here hx rfl (hb hby d16_0) rfl rfl ?_
  refine XS.aloadN X0.here hx rfl (hb hby d16_1) rfl rfl ?_
  exact kt
 obtain ⟨T2, X2, e2, st2⟩ := getF X0 hx hZ hown (host := "") (Or.inl (H 55 rfl)) Via.refl e0 q3_ (g := (own_top pre1)) rfl rfl (hb hby d16_2)
 have pre3 : own_Go p e below S0 (T2.setTop (mkF m 7 #[vR a1, vI p2] [(.int 3), (.ref a1)])) := by
  intro t kt
  refine pre1 t ?_
  refine st2 _ ?_
  refine XS.iconst X2.here hx rfl (hb hby d16_5) ?_
  refine XS.iadd X2.here hx rfl (hb hby d16_6) rfl ?_
  exact kt
 obtain ⟨cq4, qa4, qb4⟩ := q0_.cell
 obtain ⟨_, _, ⟨T4, L4, k4, n4⟩, -, X4, ⟨Lc4, hQ4, l4, y4, z4⟩, st4⟩ := X2.privateBack hx (y := own_m6) hown (mvT hZ (H 99 rfl)) (mvT hZ (H 100 rfl)) (own_selPriv3 (C := "java/lang/StringBuilder") (by decide) (mvT hZ (H 102 rfl)) (mvP hZ (H 101 rfl)) (mvT hZ (H 100 rfl))) (Cond.privateMethod_at (mvP hZ (H 101 rfl) (args := #[]))) (mvT hZ (H 103 rfl)) (by decide) (backOf (W := 0) (rmensG2 l Z a0 hw [] a1 va kv v0 v1 h0 n0 Z0 q0_ q1_ q2_ q3_ q4_ q5_ q6_) hZ (H 103 rfl) (H 15 rfl) (by decide) (by decide)) (g := (own_top pre3)) rfl (by rw [hml]; rfl) (Steps.refl _) (a := a1) (by rw [e2]; exact qa4) qb4 (argsL := [(.int 3)]) (rest := []) (lenOf pd_4 rfl) rfl (by show 2 * 0 + _ ≤ _; exact Nat.le_of_eq rfl) (hb hby d16_7) (fun _ _ => ⟨rfl, e2, (by decide : 0 + 1 ≤ _), (by decide : 0 + 6 ≤ _)⟩)
 dsimp only [Pt.U, Pt.locs, Pt.cells, Pt.slots] at X4 l4 y4 z4 st4 hQ4
 subst l4 y4 z4
 obtain ⟨b5, kb6, rfl, Nq4, K4, g7, g8, g9, g10, g11, g12, g13⟩ := hQ4
 have N4 := Fr.app N0 Nq4
 have ne14 : a1 ≠ b5 := Nat.ne_of_lt (Nat.lt_of_lt_of_le q0_.lt g7)
 have ne15 : va ≠ b5 := Nat.ne_of_lt (Nat.lt_of_lt_of_le q4_.lt g7)
 have ge16 : n0 ≤ b5 := Nat.le_trans Z0 g7
 have sz17 : h0.size ≤ b5 := Nat.le_trans kc0.1 g7
 have zs18 : n0 ≤ T4.heap.size := Nat.le_trans Z0 K4.1
 have kc19 : Keep h0 T4.heap [a1] := kc0.trans K4 (allS (Or.inl (List.mem_of_getElem? (i := 0) rfl)) all0)
 have pre20 : own_Go p e below S0 (T4.setTop (mkF m 11 #[vR a1, vI p2] [(.ref a1)])) := by
  intro t kt
  refine pre3 t ?_
  refine st4.trans ?_
  show Steps p.tables e below (T4.setTop (mkF m 10 #[vR a1, vI p2] [])) _
  refine XS.aloadN X4.here hx rfl (hb hby d16_10) rfl rfl ?_
  exact kt
 have f21 : Old Z n0 T4.heap := (O0.keep K4 (allS q5_ all0))
 obtain ⟨cq22, kq22, qa22, qb22, qc22⟩ := isOf hZ rfl g10
 obtain ⟨_, _, ⟨T22, L22, k22, n22⟩, -, X22, ⟨Lc22, hQ22, l22, y22, z22⟩, st22⟩ := X4.virtualBack hx (y := own_m8) (z := own_m8) hown (mvT hZ (H 104 rfl)) (mvT hZ (H 58 rfl)) (notFace_of_selects (args := #[]) (mvT hZ (H 60 rfl))) (mvT hZ (H 60 rfl)) (mvT hZ (H 59 rfl)) (by decide) (backOf (W := 0) (rmasl l Z a0 hw [] a1 wC T4.heap n0 zs18 f21 qC g12) hZ (H 61 rfl) (H 15 rfl) (by decide) (by decide)) qa22 qc22 (g := (own_top pre20)) rfl (by rw [hml]; rfl) (Steps.refl _) (argsL := []) (rest := []) (lenOf pd_7 rfl) rfl (by show 2 * 0 + _ ≤ _; exact Nat.le_of_eq rfl) (hb hby d16_11) (fun _ _ => ⟨rfl, rfl, (by decide : 1 + 0 ≤ _), (by decide : 6 + 0 ≤ _)⟩)
 dsimp only [Pt.U, Pt.locs, Pt.cells, Pt.slots] at X22 l22 y22 z22 st22 hQ22
 subst l22 y22 z22
 obtain ⟨rfl, Nq22, eq22⟩ := hQ22
 have N22 := Fr.app N4 Nq22
 have pre23 : own_Go p e below S0 (T22.setTop (mkF m 18 #[vR a1, vI p2] [(.int p2)])) := by
  intro t kt
  refine pre20 t ?_
  refine st22.trans ?_
  show Steps p.tables e below (T22.setTop (mkF m 14 #[vR a1, vI p2] [(.int 1)])) _
  refine XS.ifNo X22.here hx rfl (hb hby d16_14) rfl ((if0 _ _).trans (feq (by decide : ¬ ((1 : Int32) = (0 : Int32)))).1) ?_
  refine XS.iloadN X22.here hx rfl (hb hby d16_17) rfl ?_
  exact kt
 obtain ⟨_, _, ⟨T24, L24, k24, n24⟩, -, X24, ⟨Lc24, hQ24, l24, y24, z24⟩, st24⟩ := Jvm.LawKit.callS X22 hx (y := own_m24) hown (mvT hZ (H 105 rfl)) (mvT hZ (H 106 rfl)) (mvT hZ (H 107 rfl)) (mvT hZ (H 108 rfl)) (by decide) (backOf (W := 0) (rm18 l Z a0 hw [] p2 T4.heap n0 zs18 ) hZ (H 108 rfl) (H 107 rfl) (by decide) (by decide)) (g := (own_top pre23)) rfl (by rw [hml]; rfl) (argsL := [(.int p2)]) (rest := []) (lenOf pd_8 rfl) rfl (by show 2 * 0 + _ ≤ _; exact Nat.le_of_eq rfl) (hb hby d16_18) (fun _ _ => ⟨rfl, eq22, (by decide : 1 + 0 ≤ _), (by decide : 6 + 0 ≤ _)⟩)
 dsimp only [Pt.U, Pt.locs, Pt.cells, Pt.slots] at X24 l24 y24 z24 st24 hQ24
 subst l24 y24 z24
 obtain ⟨rfl, Nq24, eq24⟩ := hQ24
 have N24 := Fr.app N22 Nq24
 have pre25 : own_Go p e below S0 (T24.setTop (mkF m 25 #[vR a1, vI p2] [(.ref a1)])) := by
  intro t kt
  refine pre23 t ?_
  refine st24 _ ?_
  show Steps p.tables e below (T24.setTop (mkF m 21 #[vR a1, vI p2] [(.int (own_can p2))])) _
  refine XS.ifNo X24.here hx rfl (hb hby d16_21) rfl ((if0 _ _).trans (feq hcan).1) ?_
  refine XS.aloadN X24.here hx rfl (hb hby d16_24) rfl rfl ?_
  exact kt
 obtain ⟨T26, X26, e26, st26⟩ := getF X24 hx hZ hown (host := "") (Or.inl (H 22 rfl)) Via.refl eq24 g11 (g := (own_top pre25)) rfl rfl (hb hby d16_25)
 have pre27 : own_Go p e below S0 (T26.setTop (mkF m 30 #[vR a1, vI p2] [(.ref a1), (.ref a1), (.ref b5)])) := by
  intro t kt
  refine pre25 t ?_
  refine st26 _ ?_
  refine XS.aloadN X26.here hx rfl (hb hby d16_28) rfl rfl ?_
  refine XS.dup X26.here hx rfl (hb hby d16_29) rfl rfl ?_
  exact kt
 obtain ⟨T28, X28, e28, st28⟩ := getF X26 hx hZ hown (host := "") (Or.inl (H 55 rfl)) Via.refl e26 g13 (g := (own_top pre27)) rfl rfl (hb hby d16_30)
 have pre29 : own_Go p e below S0 (T28.setTop (mkF m 36 #[vR a1, vI p2] [(.int 3), (.ref a1), (.int 2), (.ref b5)])) := by
  intro t kt
  refine pre27 t ?_
  refine st28 _ ?_
  refine XS.dupX1 X28.here hx rfl (hb hby d16_33) rfl rfl rfl ?_
  refine XS.iconst X28.here hx rfl (hb hby d16_34) ?_
  refine XS.iadd X28.here hx rfl (hb hby d16_35) rfl ?_
  exact kt
 obtain ⟨T30, h30, X30, e30, W30, st30⟩ := putF X28 hx hZ hown (host := "") (Or.inl (H 55 rfl)) Via.refl e28 g13 g10 (Or.inl (H 56 rfl)) (H 6 rfl) (ty := .int) (by decide) rfl rfl (g := (own_top pre29)) rfl rfl (hb hby d16_36)
 have N30 := Fr.snoc X30 N24 q5_
 have zs31 : n0 ≤ h30.size := Nat.le_trans zs18 (Keep.of_wr W30).1
 have kc32 : Keep h0 h30 [a1] := kc19.wr W30 (Or.inl (List.mem_of_getElem? (i := 0) rfl))
 have fw30 : Fld Z h30 a1 "java/lang/AbstractStringBuilder" "count" "I" (.int 3) := g13.same W30
 have pre33 : own_Go p e below S0 (T30.setTop (mkF m 41 #[vR a1, vI p2] [(.int (p2.toInt8.toInt32)), (.int 2), (.ref b5)])) := by
  intro t kt
  refine pre29 t ?_
  refine st30 _ ?_
  refine XS.iloadN X30.here hx rfl (hb hby d16_39) rfl ?_
  refine XS.i2b X30.here hx rfl (hb hby d16_40) rfl ?_
  exact kt
 have f34 : Arv Z h30 b5 kb6 .byte (6 : Int32) [v0, v1, (.int 0), (.int 0), (.int 0), (.int 0)] (.int 0) := (g9.other W30 (Ne.symm ne14))
 obtain ⟨cl35, Ar35, q35, Sz35, Ng35, Hs35, Gt35⟩ := id f34
 have hin35 : ¬ ((2 : Int32) < 0 ∨ cl35.slots.size ≤ ((2 : Int32)).toNatClampNeg) := inb_of Sz35 ⟨by decide, by decide⟩
 obtain ⟨T35, h35, X35, e35, W35, st35⟩ := stB X30 hx hZ e30 Ar35 (j := (2 : Int32)) hin35 (g := (own_top pre33)) rfl rfl (hb hby d16_41)
 have N35 := Fr.snoc X35 N30 ge16
 have zs36 : n0 ≤ h35.size := Nat.le_trans zs31 (Keep.of_wr W35).1
 have kc37 : Keep h0 h35 [a1] := kc32.wr W35 (Or.inr sz17)
 have V35 : Arv Z h35 b5 kb6 .byte (6 : Int32) [v0, v1, (.int (nar .byte (p2.toInt8.toInt32))), (.int 0), (.int 0), (.int 0)] (.int 0) := Arv.set Ar35 q35 Sz35 Ng35 Hs35 Gt35 (fits_nar_byte _) W35 2 rfl (Nat.le_of_ble_eq_true rfl)
 have pre38 : own_Go p e below S0 (T35.setTop (mkF m 76 #[vR a1, vI p2] [(.ref a1)])) := by
  intro t kt
  refine pre33 t ?_
  refine st35 _ ?_
  refine XS.goto X35.here hx rfl (pc0 := 42) (pc' := 75) rfl (hb hby d16_42) (by decide) (by decide) ?_
  refine XS.aloadN X35.here hx rfl (hb hby d16_75) rfl rfl ?_
  exact kt
 obtain ⟨fs, hr, hrun, hended, hW, hsame⟩ := X35.leave (v := some (.ref a1)) (fun h => by rw [Bd.returns] at h; cases h)
 refine ⟨_, _, fin _ (pre38 _ ?_), hrun, hended, _, _, rfl, ?_, ⟨_, rfl⟩, hW, hsame.mono (by decide) (by decide)⟩
 ·jvm_step X35.here [X35.here.top, hx, (hb hby d16_76), X35.method', Bd.returns, Value.isRef, FieldType.isReference]
  first | (intro acts; rw [hr _ acts rfl rfl rfl]) | rw [hr _ _ rfl rfl rfl]
  exact Steps.refl _
 have f39 : Exa Z h35 b5 "[B" := ((g8.wr W30).wr W35)
 have f40 : Exa Z h35 a1 "java/lang/StringBuilder" := ((g10.wr W30).wr W35)
 have f41 : Fld Z h35 a1 "java/lang/AbstractStringBuilder" "value" "[B" (.ref b5) := ((g11.other W30 (Or.inr (slot_ne (Or.inl (H 23 rfl)) (Or.inl (H 56 rfl)) (by decide) (t := (.array .byte)) (t' := .int) (by decide) (by decide)))).other W35 (Or.inl ne14))
 have f42 : Fld Z h35 a1 "java/lang/AbstractStringBuilder" "coder" "B" (.int 0) := ((g12.other W30 (Or.inr (slot_ne (Or.inl (H 25 rfl)) (Or.inl (H 56 rfl)) (by decide) (t := .byte) (t' := .int) (by decide) (by decide)))).other W35 (Or.inl ne14))
 have f43 : Fld Z h35 a1 "java/lang/AbstractStringBuilder" "count" "I" (.int 3) := (fw30.other W35 (Or.inl ne14))
 ·show QaaG2 Z a1 p2 wC va kv v0 v1 h0 n0 _ T35.heap _
  rw [e35]
  exact ⟨b5, kb6, rfl, N35, kc37, sz17, f39, V35, f40, f41, f42, f43⟩

theorem ef_saG2 (m : MethodId) (x0 : Addr) (x1 : Int32) : entryFrame m #[(.ref x0), (.int x1)] 2 = mkF m 0 #[vR x0, vI x1] [] := by first | (simp [entryFrame, mkF, argsToLocals, Value.category]; done) | rfl
def QsaG2 (Z : State) (a1 : Addr) (p2 : Int32) (wC : Int32) (va : Addr) (kv : ClassId) (v0 : Value) (v1 : Value) (h0 : Heap) (n0 : Nat) (v : Option Value) (h : Heap) (L : List Loc) : Prop := ∃ b : Addr, ∃ kb : ClassId, v = (some (.ref a1)) ∧ Fr n0 L ∧ Keep h0 h [a1] ∧ h0.size ≤ b ∧ Exa Z h b "[B" ∧ Arv Z h b kb .byte (6 : Int32) [v0, v1, (.int (nar .byte (p2.toInt8.toInt32))), (.int 0), (.int 0), (.int 0)] (.int 0) ∧ Exa Z h a1 "java/lang/StringBuilder" ∧ Fld Z h a1 "java/lang/AbstractStringBuilder" "value" "[B" (.ref b) ∧ Fld Z h a1 "java/lang/AbstractStringBuilder" "coder" "B" (.int 0) ∧ Fld Z h a1 "java/lang/AbstractStringBuilder" "count" "I" (.int 3)
set_option maxRecDepth 65536 in
set_option maxHeartbeats 40000000 in
theorem rmsaG2 (l : Launch) (Z : State) (a0 : Array Value) (hw : ∀ d ∈ tables_1, d.before a0 Z = true) (ws : List Jvm.Cond) (a1 : Addr) (p2 : Int32) (wC : Int32) (va : Addr) (kv : ClassId) (v0 : Value) (v1 : Value) (h0 : Heap) (n0 : Nat) (Z0 : n0 ≤ h0.size) (O0 : Old Z n0 h0) (qC : (own_SC Z wC)) (q0_ : Exa Z h0 a1 "java/lang/StringBuilder") (q1_ : Fld Z h0 a1 "java/lang/AbstractStringBuilder" "value" "[B" (.ref va)) (q2_ : Fld Z h0 a1 "java/lang/AbstractStringBuilder" "coder" "B" (.int 0)) (q3_ : Fld Z h0 a1 "java/lang/AbstractStringBuilder" "count" "I" (.int 2)) (q4_ : Arv Z h0 va kv .byte (2 : Int32) [v0, v1] (.int 0)) (q5_ : n0 ≤ a1) (q6_ : a1 ≠ va) (hcan : (¬ own_can p2 = (0 : Int32))) :
  MetFree l own_m21 (head1 (Jvm.Cond.code own_m21 jdk_67_method_14_code 2 (some (.object "java/lang/StringBuilder")) :: ws) (own_r 5 1 18 75)) (fun a U => a = #[(.ref a1), (.int p2)] ∧ Z.Warmed39 U.vm ∧ U.heap = h0) (fun _ _ _ _ _ => True) (fun _ U o U' => ∃ v L, o = .returned v ∧ QsaG2 Z a1 p2 wC va kv v0 v1 h0 n0 v U'.heap L ∧ FrameEnd U o U' L (own_r 5 1 18 75).cells (own_r 5 1 18 75).slots) := by
 refine MetFree.of_bodySF (plainFor_of_name pn_15) hisR ?_
 intro p e s m args below meth c s₁ Bd hml0 hP hK
 have H : ∀ (i : Nat) {d : Jvm.Cond}, tables_1[i]? = some d → d.before a0 Z = true := fun i _ h => hw _ (own_w i h)
 obtain ⟨rfl, hZ, hh⟩ := hP
 have hx := Bd.exec
 have hby := Bd.bytes
 have hml : c.maxLocals = 2 := hml0
 have hown0 := findClass_of_methodNamed Bd.named
 have hown : s.vm.findClass "java/lang/StringBuilder" = some m.cls := hown0
 have hnm := (name_of_methodNamed Bd.named Bd.method).1
 have X0 : Stand p l e (own_r 5 1 18 75) s m #[(.ref a1), (.int p2)] below meth c s₁ [] 0 0 := Stand.of_body Bd
 have e0 : s₁.heap = h0 := by rw [← hh, Bd.state]; rfl
 have N0 := Fr.nil n0
 obtain ⟨S0, hS0⟩ : ∃ z, z = s₁.setTop (entryFrame m #[(.ref a1), (.int p2)] 2) := ⟨_, rfl⟩
 have pre0 : own_Go p e below S0 (s₁.setTop (mkF m 0 #[vR a1, vI p2] [])) := fun t k => by rw [hS0]; exact castTop (ef_saG2 m a1 p2) k
 have fin : ∀ t, Steps p.tables e below S0 t → Steps p.tables e below (s₁.setTop (entryFrame m #[(.ref a1), (.int p2)] 2)) t := fun t k => by rw [hS0] at k; exact k
 have kc0 : Keep h0 h0 [a1] := Keep.refl _ _
 have pre1 : own_Go p e below S0 (s₁.setTop (mkF m 2 #[vR a1, vI p2] [(.int p2), (.ref a1)])) := by
  intro t kt
  refine pre0 t ?_
  refine XS.aloadN X0.here hx rfl (hb hby d15_0) rfl rfl ?_
  refine XS.iloadN X0.here hx rfl (hb hby d15_1) rfl ?_
  exact kt
 obtain ⟨_, _, ⟨T2, L2, k2, n2⟩, -, X2, ⟨Lc2, hQ2, l2, y2, z2⟩, st2⟩ := superBack X0 hx hZ (y := own_m5) hown (H 95 rfl) (own_same (C := "java/lang/StringBuilder") (w := own_m7) (z := own_m7) rfl (by decide) (H 44 rfl) (H 96 rfl)) (H 96 rfl) (H 53 rfl) (by decide) (backOf (W := 0) (rmaaG2 l Z a0 hw [] a1 p2 wC va kv v0 v1 h0 n0 Z0 O0 qC q0_ q1_ q2_ q3_ q4_ q5_ q6_ hcan) hZ (H 98 rfl) (H 15 rfl) (by decide) (by decide)) e0 (Ins.self q0_) (g := (own_top pre1)) rfl (by rw [hml]; rfl) (H 98 rfl) (a := a1) (argsL := [(.int p2)]) (rest := []) (lenOf pd_9 rfl) rfl (by show 2 * 0 + _ ≤ _; exact Nat.le_of_eq rfl) (hb hby d15_2) (fun _ _ => ⟨rfl, e0, (by decide : 0 + 1 ≤ _), (by decide : 0 + 6 ≤ _)⟩)
 dsimp only [Pt.U, Pt.locs, Pt.cells, Pt.slots] at X2 l2 y2 z2 st2 hQ2
 subst l2 y2 z2
 obtain ⟨b3, kb4, rfl, Nq2, K2, g5, g6, g7, g8, g9, g10, g11⟩ := hQ2
 have N2 := Fr.app N0 Nq2
 have ne12 : a1 ≠ b3 := Nat.ne_of_lt (Nat.lt_of_lt_of_le q0_.lt g5)
 have ne13 : va ≠ b3 := Nat.ne_of_lt (Nat.lt_of_lt_of_le q4_.lt g5)
 have ge14 : n0 ≤ b3 := Nat.le_trans Z0 g5
 have sz15 : h0.size ≤ b3 := Nat.le_trans kc0.1 g5
 have zs16 : n0 ≤ T2.heap.size := Nat.le_trans Z0 K2.1
 have kc17 : Keep h0 T2.heap [a1] := kc0.trans K2 (allS (Or.inl (List.mem_of_getElem? (i := 0) rfl)) all0)
 have pre18 : own_Go p e below S0 (T2.setTop (mkF m 7 #[vR a1, vI p2] [(.ref a1)])) := by
  intro t kt
  refine pre1 t ?_
  refine st2.trans ?_
  show Steps p.tables e below (T2.setTop (mkF m 5 #[vR a1, vI p2] [(.ref a1)])) _
  refine XS.pop X2.here hx rfl (hb hby d15_5) rfl rfl ?_
  refine XS.aloadN X2.here hx rfl (hb hby d15_6) rfl rfl ?_
  exact kt
 obtain ⟨fs, hr, hrun, hended, hW, hsame⟩ := X2.leave (v := some (.ref a1)) (fun h => by rw [Bd.returns] at h; cases h)
 refine ⟨_, _, fin _ (pre18 _ ?_), hrun, hended, _, _, rfl, ?_, ⟨_, rfl⟩, hW, hsame.mono (by decide) (by decide)⟩
 ·jvm_step X2.here [X2.here.top, hx, (hb hby d15_7), X2.method', Bd.returns, Value.isRef, FieldType.isReference]
  first | (intro acts; rw [hr _ acts rfl rfl rfl]) | rw [hr _ _ rfl rfl rfl]
  exact Steps.refl _
 ·show QsaG2 Z a1 p2 wC va kv v0 v1 h0 n0 _ T2.heap _
  exact ⟨b3, kb4, rfl, N2, kc17, sz15, g6, g7, g8, g9, g10, g11⟩

theorem ef_aaG3 (m : MethodId) (x0 : Addr) (x1 : Int32) : entryFrame m #[(.ref x0), (.int x1)] 2 = mkF m 0 #[vR x0, vI x1] [] := by first | (simp [entryFrame, mkF, argsToLocals, Value.category]; done) | rfl
def QaaG3 (Z : State) (a1 : Addr) (p2 : Int32) (wC : Int32) (va : Addr) (kv : ClassId) (v0 : Value) (v1 : Value) (v2 : Value) (h0 : Heap) (n0 : Nat) (v : Option Value) (h : Heap) (L : List Loc) : Prop := ∃ b : Addr, ∃ kb : ClassId, v = (some (.ref a1)) ∧ Fr n0 L ∧ Keep h0 h [a1] ∧ h0.size ≤ b ∧ Exa Z h b "[B" ∧ Arv Z h b kb .byte (8 : Int32) [v0, v1, v2, (.int (nar .byte (p2.toInt8.toInt32))), (.int 0), (.int 0), (.int 0), (.int 0)] (.int 0) ∧ Exa Z h a1 "java/lang/StringBuilder" ∧ Fld Z h a1 "java/lang/AbstractStringBuilder" "value" "[B" (.ref b) ∧ Fld Z h a1 "java/lang/AbstractStringBuilder" "coder" "B" (.int 0) ∧ Fld Z h a1 "java/lang/AbstractStringBuilder" "count" "I" (.int 4)
set_option maxRecDepth 65536 in
set_option maxHeartbeats 40000000 in
theorem rmaaG3 (l : Launch) (Z : State) (a0 : Array Value) (hw : ∀ d ∈ tables_1, d.before a0 Z = true) (ws : List Jvm.Cond) (a1 : Addr) (p2 : Int32) (wC : Int32) (va : Addr) (kv : ClassId) (v0 : Value) (v1 : Value) (v2 : Value) (h0 : Heap) (n0 : Nat) (Z0 : n0 ≤ h0.size) (O0 : Old Z n0 h0) (qC : (own_SC Z wC)) (q0_ : Exa Z h0 a1 "java/lang/StringBuilder") (q1_ : Fld Z h0 a1 "java/lang/AbstractStringBuilder" "value" "[B" (.ref va)) (q2_ : Fld Z h0 a1 "java/lang/AbstractStringBuilder" "coder" "B" (.int 0)) (q3_ : Fld Z h0 a1 "java/lang/AbstractStringBuilder" "count" "I" (.int 3)) (q4_ : Arv Z h0 va kv .byte (3 : Int32) [v0, v1, v2] (.int 0)) (q5_ : n0 ≤ a1) (q6_ : a1 ≠ va) (hcan : (¬ own_can p2 = (0 : Int32))) :
  MetFree l own_m5 (head1 (Jvm.Cond.code own_m5 jdk_68_method_31_code 2 (some (.object "java/lang/AbstractStringBuilder")) :: ws) (own_r 4 1 8 62)) (fun a U => a = #[(.ref a1), (.int p2)] ∧ Z.Warmed39 U.vm ∧ U.heap = h0) (fun _ _ _ _ _ => True) (fun _ U o U' => ∃ v L, o = .returned v ∧ QaaG3 Z a1 p2 wC va kv v0 v1 v2 h0 n0 v U'.heap L ∧ FrameEnd U o U' L (own_r 4 1 8 62).cells (own_r 4 1 8 62).slots) := by
 refine MetFree.of_bodySF (plainFor_of_name pn_16) hisR ?_
 intro p e s m args below meth c s₁ Bd hml0 hP hK
 have H : ∀ (i : Nat) {d : Jvm.Cond}, tables_1[i]? = some d → d.before a0 Z = true := fun i _ h => hw _ (own_w i h)
 obtain ⟨rfl, hZ, hh⟩ := hP
 have hx := Bd.exec
 have hby := Bd.bytes
 have hml : c.maxLocals = 2 := hml0
 have hown0 := findClass_of_methodNamed Bd.named
 have hown : s.vm.findClass "java/lang/AbstractStringBuilder" = some m.cls := hown0
 have hnm := (name_of_methodNamed Bd.named Bd.method).1
 have X0 : Stand p l e (own_r 4 1 8 62) s m #[(.ref a1), (.int p2)] below meth c s₁ [] 0 0 := Stand.of_body Bd
 have e0 : s₁.heap = h0 := by rw [← hh, Bd.state]; rfl
 have N0 := Fr.nil n0
 obtain ⟨S0, hS0⟩ : ∃ z, z = s₁.setTop (entryFrame m #[(.ref a1), (.int p2)] 2) := ⟨_, rfl⟩
 have pre0 : own_Go p e below S0 (s₁.setTop (mkF m 0 #[vR a1, vI p2] [])) := fun t k => by rw [hS0]; exact castTop (ef_aaG3 m a1 p2) k
 have fin : ∀ t, Steps p.tables e below S0 t → Steps p.tables e below (s₁.setTop (entryFrame m #[(.ref a1), (.int p2)] 2)) t := fun t k => by rw [hS0] at k; exact k
 have kc0 : Keep h0 h0 [a1] := Keep.refl _ _
 have pre1 : own_Go p e below S0 (s₁.setTop (mkF m 2 #[vR a1, vI p2] [(.ref a1), (.ref a1)])) := by
  intro t kt
  refine pre0 t ?_
  refine XS.aloadN X0.here hx rfl (hb hby d16_0) rfl rfl ?_
  refine XS.aloadN X0.here hx rfl (hb hby d16_1) rfl rfl ?_
  exact kt
 obtain ⟨T2, X2, e2, st2⟩ := getF X0 hx hZ hown (host := "") (Or.inl (H 55 rfl)) Via.refl e0 q3_ (g := (own_top pre1)) rfl rfl (hb hby d16_2)
 have pre3 : own_Go p e below S0 (T2.setTop (mkF m 7 #[vR a1, vI p2] [(.int 4), (.ref a1)])) := by
  intro t kt
  refine pre1 t ?_
  refine st2 _ ?_
  refine XS.iconst X2.here hx rfl (hb hby d16_5) ?_
  refine XS.iadd X2.here hx rfl (hb hby d16_6) rfl ?_
  exact kt
 obtain ⟨cq4, qa4, qb4⟩ := q0_.cell
 obtain ⟨_, _, ⟨T4, L4, k4, n4⟩, -, X4, ⟨Lc4, hQ4, l4, y4, z4⟩, st4⟩ := X2.privateBack hx (y := own_m6) hown (mvT hZ (H 99 rfl)) (mvT hZ (H 100 rfl)) (own_selPriv3 (C := "java/lang/StringBuilder") (by decide) (mvT hZ (H 102 rfl)) (mvP hZ (H 101 rfl)) (mvT hZ (H 100 rfl))) (Cond.privateMethod_at (mvP hZ (H 101 rfl) (args := #[]))) (mvT hZ (H 103 rfl)) (by decide) (backOf (W := 0) (rmensG3 l Z a0 hw [] a1 va kv v0 v1 v2 h0 n0 Z0 q0_ q1_ q2_ q3_ q4_ q5_ q6_) hZ (H 103 rfl) (H 15 rfl) (by decide) (by decide)) (g := (own_top pre3)) rfl (by rw [hml]; rfl) (Steps.refl _) (a := a1) (by rw [e2]; exact qa4) qb4 (argsL := [(.int 4)]) (rest := []) (lenOf pd_4 rfl) rfl (by show 2 * 0 + _ ≤ _; exact Nat.le_of_eq rfl) (hb hby d16_7) (fun _ _ => ⟨rfl, e2, (by decide : 0 + 1 ≤ _), (by decide : 0 + 8 ≤ _)⟩)
 dsimp only [Pt.U, Pt.locs, Pt.cells, Pt.slots] at X4 l4 y4 z4 st4 hQ4
 subst l4 y4 z4
 obtain ⟨b5, kb6, rfl, Nq4, K4, g7, g8, g9, g10, g11, g12, g13⟩ := hQ4
 have N4 := Fr.app N0 Nq4
 have ne14 : a1 ≠ b5 := Nat.ne_of_lt (Nat.lt_of_lt_of_le q0_.lt g7)
 have ne15 : va ≠ b5 := Nat.ne_of_lt (Nat.lt_of_lt_of_le q4_.lt g7)
 have ge16 : n0 ≤ b5 := Nat.le_trans Z0 g7
 have sz17 : h0.size ≤ b5 := Nat.le_trans kc0.1 g7
 have zs18 : n0 ≤ T4.heap.size := Nat.le_trans Z0 K4.1
 have kc19 : Keep h0 T4.heap [a1] := kc0.trans K4 (allS (Or.inl (List.mem_of_getElem? (i := 0) rfl)) all0)
 have pre20 : own_Go p e below S0 (T4.setTop (mkF m 11 #[vR a1, vI p2] [(.ref a1)])) := by
  intro t kt
  refine pre3 t ?_
  refine st4.trans ?_
  show Steps p.tables e below (T4.setTop (mkF m 10 #[vR a1, vI p2] [])) _
  refine XS.aloadN X4.here hx rfl (hb hby d16_10) rfl rfl ?_
  exact kt
 have f21 : Old Z n0 T4.heap := (O0.keep K4 (allS q5_ all0))
 obtain ⟨cq22, kq22, qa22, qb22, qc22⟩ := isOf hZ rfl g10
 obtain ⟨_, _, ⟨T22, L22, k22, n22⟩, -, X22, ⟨Lc22, hQ22, l22, y22, z22⟩, st22⟩ := X4.virtualBack hx (y := own_m8) (z := own_m8) hown (mvT hZ (H 104 rfl)) (mvT hZ (H 58 rfl)) (notFace_of_selects (args := #[]) (mvT hZ (H 60 rfl))) (mvT hZ (H 60 rfl)) (mvT hZ (H 59 rfl)) (by decide) (backOf (W := 0) (rmasl l Z a0 hw [] a1 wC T4.heap n0 zs18 f21 qC g12) hZ (H 61 rfl) (H 15 rfl) (by decide) (by decide)) qa22 qc22 (g := (own_top pre20)) rfl (by rw [hml]; rfl) (Steps.refl _) (argsL := []) (rest := []) (lenOf pd_7 rfl) rfl (by show 2 * 0 + _ ≤ _; exact Nat.le_of_eq rfl) (hb hby d16_11) (fun _ _ => ⟨rfl, rfl, (by decide : 1 + 0 ≤ _), (by decide : 8 + 0 ≤ _)⟩)
 dsimp only [Pt.U, Pt.locs, Pt.cells, Pt.slots] at X22 l22 y22 z22 st22 hQ22
 subst l22 y22 z22
 obtain ⟨rfl, Nq22, eq22⟩ := hQ22
 have N22 := Fr.app N4 Nq22
 have pre23 : own_Go p e below S0 (T22.setTop (mkF m 18 #[vR a1, vI p2] [(.int p2)])) := by
  intro t kt
  refine pre20 t ?_
  refine st22.trans ?_
  show Steps p.tables e below (T22.setTop (mkF m 14 #[vR a1, vI p2] [(.int 1)])) _
  refine XS.ifNo X22.here hx rfl (hb hby d16_14) rfl ((if0 _ _).trans (feq (by decide : ¬ ((1 : Int32) = (0 : Int32)))).1) ?_
  refine XS.iloadN X22.here hx rfl (hb hby d16_17) rfl ?_
  exact kt
 obtain ⟨_, _, ⟨T24, L24, k24, n24⟩, -, X24, ⟨Lc24, hQ24, l24, y24, z24⟩, st24⟩ := Jvm.LawKit.callS X22 hx (y := own_m24) hown (mvT hZ (H 105 rfl)) (mvT hZ (H 106 rfl)) (mvT hZ (H 107 rfl)) (mvT hZ (H 108 rfl)) (by decide) (backOf (W := 0) (rm18 l Z a0 hw [] p2 T4.heap n0 zs18 ) hZ (H 108 rfl) (H 107 rfl) (by decide) (by decide)) (g := (own_top pre23)) rfl (by rw [hml]; rfl) (argsL := [(.int p2)]) (rest := []) (lenOf pd_8 rfl) rfl (by show 2 * 0 + _ ≤ _; exact Nat.le_of_eq rfl) (hb hby d16_18) (fun _ _ => ⟨rfl, eq22, (by decide : 1 + 0 ≤ _), (by decide : 8 + 0 ≤ _)⟩)
 dsimp only [Pt.U, Pt.locs, Pt.cells, Pt.slots] at X24 l24 y24 z24 st24 hQ24
 subst l24 y24 z24
 obtain ⟨rfl, Nq24, eq24⟩ := hQ24
 have N24 := Fr.app N22 Nq24
 have pre25 : own_Go p e below S0 (T24.setTop (mkF m 25 #[vR a1, vI p2] [(.ref a1)])) := by
  intro t kt
  refine pre23 t ?_
  refine st24 _ ?_
  show Steps p.tables e below (T24.setTop (mkF m 21 #[vR a1, vI p2] [(.int (own_can p2))])) _
  refine XS.ifNo X24.here hx rfl (hb hby d16_21) rfl ((if0 _ _).trans (feq hcan).1) ?_
  refine XS.aloadN X24.here hx rfl (hb hby d16_24) rfl rfl ?_
  exact kt
 obtain ⟨T26, X26, e26, st26⟩ := getF X24 hx hZ hown (host := "") (Or.inl (H 22 rfl)) Via.refl eq24 g11 (g := (own_top pre25)) rfl rfl (hb hby d16_25)
 have pre27 : own_Go p e below S0 (T26.setTop (mkF m 30 #[vR a1, vI p2] [(.ref a1), (.ref a1), (.ref b5)])) := by
  intro t kt
  refine pre25 t ?_
  refine st26 _ ?_
  refine XS.aloadN X26.here hx rfl (hb hby d16_28) rfl rfl ?_
  refine XS.dup X26.here hx rfl (hb hby d16_29) rfl rfl ?_
  exact kt
 obtain ⟨T28, X28, e28, st28⟩ := getF X26 hx hZ hown (host := "") (Or.inl (H 55 rfl)) Via.refl e26 g13 (g := (own_top pre27)) rfl rfl (hb hby d16_30)
 have pre29 : own_Go p e below S0 (T28.setTop (mkF m 36 #[vR a1, vI p2] [(.int 4), (.ref a1), (.int 3), (.ref b5)])) := by
  intro t kt
  refine pre27 t ?_
  refine st28 _ ?_
  refine XS.dupX1 X28.here hx rfl (hb hby d16_33) rfl rfl rfl ?_
  refine XS.iconst X28.here hx rfl (hb hby d16_34) ?_
  refine XS.iadd X28.here hx rfl (hb hby d16_35) rfl ?_
  exact kt
 obtain ⟨T30, h30, X30, e30, W30, st30⟩ := putF X28 hx hZ hown (host := "") (Or.inl (H 55 rfl)) Via.refl e28 g13 g10 (Or.inl (H 56 rfl)) (H 6 rfl) (ty := .int) (by decide) rfl rfl (g := (own_top pre29)) rfl rfl (hb hby d16_36)
 have N30 := Fr.snoc X30 N24 q5_
 have zs31 : n0 ≤ h30.size := Nat.le_trans zs18 (Keep.of_wr W30).1
 have kc32 : Keep h0 h30 [a1] := kc19.wr W30 (Or.inl (List.mem_of_getElem? (i := 0) rfl))
 have fw30 : Fld Z h30 a1 "java/lang/AbstractStringBuilder" "count" "I" (.int 4) := g13.same W30
 have pre33 : own_Go p e below S0 (T30.setTop (mkF m 41 #[vR a1, vI p2] [(.int (p2.toInt8.toInt32)), (.int 3), (.ref b5)])) := by
  intro t kt
  refine pre29 t ?_
  refine st30 _ ?_
  refine XS.iloadN X30.here hx rfl (hb hby d16_39) rfl ?_
  refine XS.i2b X30.here hx rfl (hb hby d16_40) rfl ?_
  exact kt
 have f34 : Arv Z h30 b5 kb6 .byte (8 : Int32) [v0, v1, v2, (.int 0), (.int 0), (.int 0), (.int 0), (.int 0)] (.int 0) := (g9.other W30 (Ne.symm ne14))
 obtain ⟨cl35, Ar35, q35, Sz35, Ng35, Hs35, Gt35⟩ := id f34
 have hin35 : ¬ ((3 : Int32) < 0 ∨ cl35.slots.size ≤ ((3 : Int32)).toNatClampNeg) := inb_of Sz35 ⟨by decide, by decide⟩
 obtain ⟨T35, h35, X35, e35, W35, st35⟩ := stB X30 hx hZ e30 Ar35 (j := (3 : Int32)) hin35 (g := (own_top pre33)) rfl rfl (hb hby d16_41)
 have N35 := Fr.snoc X35 N30 ge16
 have zs36 : n0 ≤ h35.size := Nat.le_trans zs31 (Keep.of_wr W35).1
 have kc37 : Keep h0 h35 [a1] := kc32.wr W35 (Or.inr sz17)
 have V35 : Arv Z h35 b5 kb6 .byte (8 : Int32) [v0, v1, v2, (.int (nar .byte (p2.toInt8.toInt32))), (.int 0), (.int 0), (.int 0), (.int 0)] (.int 0) := Arv.set Ar35 q35 Sz35 Ng35 Hs35 Gt35 (fits_nar_byte _) W35 3 rfl (Nat.le_of_ble_eq_true rfl)
 have pre38 : own_Go p e below S0 (T35.setTop (mkF m 76 #[vR a1, vI p2] [(.ref a1)])) := by
  intro t kt
  refine pre33 t ?_
  refine st35 _ ?_
  refine XS.goto X35.here hx rfl (pc0 := 42) (pc' := 75) rfl (hb hby d16_42) (by decide) (by decide) ?_
  refine XS.aloadN X35.here hx rfl (hb hby d16_75) rfl rfl ?_
  exact kt
 obtain ⟨fs, hr, hrun, hended, hW, hsame⟩ := X35.leave (v := some (.ref a1)) (fun h => by rw [Bd.returns] at h; cases h)
 refine ⟨_, _, fin _ (pre38 _ ?_), hrun, hended, _, _, rfl, ?_, ⟨_, rfl⟩, hW, hsame.mono (by decide) (by decide)⟩
 ·jvm_step X35.here [X35.here.top, hx, (hb hby d16_76), X35.method', Bd.returns, Value.isRef, FieldType.isReference]
  first | (intro acts; rw [hr _ acts rfl rfl rfl]) | rw [hr _ _ rfl rfl rfl]
  exact Steps.refl _
 have f39 : Exa Z h35 b5 "[B" := ((g8.wr W30).wr W35)
 have f40 : Exa Z h35 a1 "java/lang/StringBuilder" := ((g10.wr W30).wr W35)
 have f41 : Fld Z h35 a1 "java/lang/AbstractStringBuilder" "value" "[B" (.ref b5) := ((g11.other W30 (Or.inr (slot_ne (Or.inl (H 23 rfl)) (Or.inl (H 56 rfl)) (by decide) (t := (.array .byte)) (t' := .int) (by decide) (by decide)))).other W35 (Or.inl ne14))
 have f42 : Fld Z h35 a1 "java/lang/AbstractStringBuilder" "coder" "B" (.int 0) := ((g12.other W30 (Or.inr (slot_ne (Or.inl (H 25 rfl)) (Or.inl (H 56 rfl)) (by decide) (t := .byte) (t' := .int) (by decide) (by decide)))).other W35 (Or.inl ne14))
 have f43 : Fld Z h35 a1 "java/lang/AbstractStringBuilder" "count" "I" (.int 4) := (fw30.other W35 (Or.inl ne14))
 ·show QaaG3 Z a1 p2 wC va kv v0 v1 v2 h0 n0 _ T35.heap _
  rw [e35]
  exact ⟨b5, kb6, rfl, N35, kc37, sz17, f39, V35, f40, f41, f42, f43⟩

theorem ef_saG3 (m : MethodId) (x0 : Addr) (x1 : Int32) : entryFrame m #[(.ref x0), (.int x1)] 2 = mkF m 0 #[vR x0, vI x1] [] := by first | (simp [entryFrame, mkF, argsToLocals, Value.category]; done) | rfl
def QsaG3 (Z : State) (a1 : Addr) (p2 : Int32) (wC : Int32) (va : Addr) (kv : ClassId) (v0 : Value) (v1 : Value) (v2 : Value) (h0 : Heap) (n0 : Nat) (v : Option Value) (h : Heap) (L : List Loc) : Prop := ∃ b : Addr, ∃ kb : ClassId, v = (some (.ref a1)) ∧ Fr n0 L ∧ Keep h0 h [a1] ∧ h0.size ≤ b ∧ Exa Z h b "[B" ∧ Arv Z h b kb .byte (8 : Int32) [v0, v1, v2, (.int (nar .byte (p2.toInt8.toInt32))), (.int 0), (.int 0), (.int 0), (.int 0)] (.int 0) ∧ Exa Z h a1 "java/lang/StringBuilder" ∧ Fld Z h a1 "java/lang/AbstractStringBuilder" "value" "[B" (.ref b) ∧ Fld Z h a1 "java/lang/AbstractStringBuilder" "coder" "B" (.int 0) ∧ Fld Z h a1 "java/lang/AbstractStringBuilder" "count" "I" (.int 4)
set_option maxRecDepth 65536 in
set_option maxHeartbeats 40000000 in
theorem rmsaG3 (l : Launch) (Z : State) (a0 : Array Value) (hw : ∀ d ∈ tables_1, d.before a0 Z = true) (ws : List Jvm.Cond) (a1 : Addr) (p2 : Int32) (wC : Int32) (va : Addr) (kv : ClassId) (v0 : Value) (v1 : Value) (v2 : Value) (h0 : Heap) (n0 : Nat) (Z0 : n0 ≤ h0.size) (O0 : Old Z n0 h0) (qC : (own_SC Z wC)) (q0_ : Exa Z h0 a1 "java/lang/StringBuilder") (q1_ : Fld Z h0 a1 "java/lang/AbstractStringBuilder" "value" "[B" (.ref va)) (q2_ : Fld Z h0 a1 "java/lang/AbstractStringBuilder" "coder" "B" (.int 0)) (q3_ : Fld Z h0 a1 "java/lang/AbstractStringBuilder" "count" "I" (.int 3)) (q4_ : Arv Z h0 va kv .byte (3 : Int32) [v0, v1, v2] (.int 0)) (q5_ : n0 ≤ a1) (q6_ : a1 ≠ va) (hcan : (¬ own_can p2 = (0 : Int32))) :
  MetFree l own_m21 (head1 (Jvm.Cond.code own_m21 jdk_67_method_14_code 2 (some (.object "java/lang/StringBuilder")) :: ws) (own_r 5 1 18 75)) (fun a U => a = #[(.ref a1), (.int p2)] ∧ Z.Warmed39 U.vm ∧ U.heap = h0) (fun _ _ _ _ _ => True) (fun _ U o U' => ∃ v L, o = .returned v ∧ QsaG3 Z a1 p2 wC va kv v0 v1 v2 h0 n0 v U'.heap L ∧ FrameEnd U o U' L (own_r 5 1 18 75).cells (own_r 5 1 18 75).slots) := by
 refine MetFree.of_bodySF (plainFor_of_name pn_15) hisR ?_
 intro p e s m args below meth c s₁ Bd hml0 hP hK
 have H : ∀ (i : Nat) {d : Jvm.Cond}, tables_1[i]? = some d → d.before a0 Z = true := fun i _ h => hw _ (own_w i h)
 obtain ⟨rfl, hZ, hh⟩ := hP
 have hx := Bd.exec
 have hby := Bd.bytes
 have hml : c.maxLocals = 2 := hml0
 have hown0 := findClass_of_methodNamed Bd.named
 have hown : s.vm.findClass "java/lang/StringBuilder" = some m.cls := hown0
 have hnm := (name_of_methodNamed Bd.named Bd.method).1
 have X0 : Stand p l e (own_r 5 1 18 75) s m #[(.ref a1), (.int p2)] below meth c s₁ [] 0 0 := Stand.of_body Bd
 have e0 : s₁.heap = h0 := by rw [← hh, Bd.state]; rfl
 have N0 := Fr.nil n0
 obtain ⟨S0, hS0⟩ : ∃ z, z = s₁.setTop (entryFrame m #[(.ref a1), (.int p2)] 2) := ⟨_, rfl⟩
 have pre0 : own_Go p e below S0 (s₁.setTop (mkF m 0 #[vR a1, vI p2] [])) := fun t k => by rw [hS0]; exact castTop (ef_saG3 m a1 p2) k
 have fin : ∀ t, Steps p.tables e below S0 t → Steps p.tables e below (s₁.setTop (entryFrame m #[(.ref a1), (.int p2)] 2)) t := fun t k => by rw [hS0] at k; exact k
 have kc0 : Keep h0 h0 [a1] := Keep.refl _ _
 have pre1 : own_Go p e below S0 (s₁.setTop (mkF m 2 #[vR a1, vI p2] [(.int p2), (.ref a1)])) := by
  intro t kt
  refine pre0 t ?_
  refine XS.aloadN X0.here hx rfl (hb hby d15_0) rfl rfl ?_
  refine XS.iloadN X0.here hx rfl (hb hby d15_1) rfl ?_
  exact kt
 obtain ⟨_, _, ⟨T2, L2, k2, n2⟩, -, X2, ⟨Lc2, hQ2, l2, y2, z2⟩, st2⟩ := superBack X0 hx hZ (y := own_m5) hown (H 95 rfl) (own_same (C := "java/lang/StringBuilder") (w := own_m7) (z := own_m7) rfl (by decide) (H 44 rfl) (H 96 rfl)) (H 96 rfl) (H 53 rfl) (by decide) (backOf (W := 0) (rmaaG3 l Z a0 hw [] a1 p2 wC va kv v0 v1 v2 h0 n0 Z0 O0 qC q0_ q1_ q2_ q3_ q4_ q5_ q6_ hcan) hZ (H 98 rfl) (H 15 rfl) (by decide) (by decide)) e0 (Ins.self q0_) (g := (own_top pre1)) rfl (by rw [hml]; rfl) (H 98 rfl) (a := a1) (argsL := [(.int p2)]) (rest := []) (lenOf pd_9 rfl) rfl (by show 2 * 0 + _ ≤ _; exact Nat.le_of_eq rfl) (hb hby d15_2) (fun _ _ => ⟨rfl, e0, (by decide : 0 + 1 ≤ _), (by decide : 0 + 8 ≤ _)⟩)
 dsimp only [Pt.U, Pt.locs, Pt.cells, Pt.slots] at X2 l2 y2 z2 st2 hQ2
 subst l2 y2 z2
 obtain ⟨b3, kb4, rfl, Nq2, K2, g5, g6, g7, g8, g9, g10, g11⟩ := hQ2
 have N2 := Fr.app N0 Nq2
 have ne12 : a1 ≠ b3 := Nat.ne_of_lt (Nat.lt_of_lt_of_le q0_.lt g5)
 have ne13 : va ≠ b3 := Nat.ne_of_lt (Nat.lt_of_lt_of_le q4_.lt g5)
 have ge14 : n0 ≤ b3 := Nat.le_trans Z0 g5
 have sz15 : h0.size ≤ b3 := Nat.le_trans kc0.1 g5
 have zs16 : n0 ≤ T2.heap.size := Nat.le_trans Z0 K2.1
 have kc17 : Keep h0 T2.heap [a1] := kc0.trans K2 (allS (Or.inl (List.mem_of_getElem? (i := 0) rfl)) all0)
 have pre18 : own_Go p e below S0 (T2.setTop (mkF m 7 #[vR a1, vI p2] [(.ref a1)])) := by
  intro t kt
  refine pre1 t ?_
  refine st2.trans ?_
  show Steps p.tables e below (T2.setTop (mkF m 5 #[vR a1, vI p2] [(.ref a1)])) _
  refine XS.pop X2.here hx rfl (hb hby d15_5) rfl rfl ?_
  refine XS.aloadN X2.here hx rfl (hb hby d15_6) rfl rfl ?_
  exact kt
 obtain ⟨fs, hr, hrun, hended, hW, hsame⟩ := X2.leave (v := some (.ref a1)) (fun h => by rw [Bd.returns] at h; cases h)
 refine ⟨_, _, fin _ (pre18 _ ?_), hrun, hended, _, _, rfl, ?_, ⟨_, rfl⟩, hW, hsame.mono (by decide) (by decide)⟩
 ·jvm_step X2.here [X2.here.top, hx, (hb hby d15_7), X2.method', Bd.returns, Value.isRef, FieldType.isReference]
  first | (intro acts; rw [hr _ acts rfl rfl rfl]) | rw [hr _ _ rfl rfl rfl]
  exact Steps.refl _
 ·show QsaG3 Z a1 p2 wC va kv v0 v1 v2 h0 n0 _ T2.heap _
  exact ⟨b3, kb4, rfl, N2, kc17, sz15, g6, g7, g8, g9, g10, g11⟩

theorem ef_aaG8 (m : MethodId) (x0 : Addr) (x1 : Int32) : entryFrame m #[(.ref x0), (.int x1)] 2 = mkF m 0 #[vR x0, vI x1] [] := by first | (simp [entryFrame, mkF, argsToLocals, Value.category]; done) | rfl
def QaaG8 (Z : State) (a1 : Addr) (p2 : Int32) (wC : Int32) (va : Addr) (kv : ClassId) (v0 : Value) (v1 : Value) (v2 : Value) (v3 : Value) (v4 : Value) (v5 : Value) (v6 : Value) (v7 : Value) (h0 : Heap) (n0 : Nat) (v : Option Value) (h : Heap) (L : List Loc) : Prop := ∃ b : Addr, ∃ kb : ClassId, v = (some (.ref a1)) ∧ Fr n0 L ∧ Keep h0 h [a1] ∧ h0.size ≤ b ∧ Exa Z h b "[B" ∧ Arv Z h b kb .byte (18 : Int32) [v0, v1, v2, v3, v4, v5, v6, v7, (.int (nar .byte (p2.toInt8.toInt32))), (.int 0), (.int 0), (.int 0), (.int 0), (.int 0), (.int 0), (.int 0), (.int 0), (.int 0)] (.int 0) ∧ Exa Z h a1 "java/lang/StringBuilder" ∧ Fld Z h a1 "java/lang/AbstractStringBuilder" "value" "[B" (.ref b) ∧ Fld Z h a1 "java/lang/AbstractStringBuilder" "coder" "B" (.int 0) ∧ Fld Z h a1 "java/lang/AbstractStringBuilder" "count" "I" (.int 9)
set_option maxRecDepth 65536 in
set_option maxHeartbeats 40000000 in
theorem rmaaG8 (l : Launch) (Z : State) (a0 : Array Value) (hw : ∀ d ∈ tables_1, d.before a0 Z = true) (ws : List Jvm.Cond) (a1 : Addr) (p2 : Int32) (wC : Int32) (va : Addr) (kv : ClassId) (v0 : Value) (v1 : Value) (v2 : Value) (v3 : Value) (v4 : Value) (v5 : Value) (v6 : Value) (v7 : Value) (h0 : Heap) (n0 : Nat) (Z0 : n0 ≤ h0.size) (O0 : Old Z n0 h0) (qC : (own_SC Z wC)) (q0_ : Exa Z h0 a1 "java/lang/StringBuilder") (q1_ : Fld Z h0 a1 "java/lang/AbstractStringBuilder" "value" "[B" (.ref va)) (q2_ : Fld Z h0 a1 "java/lang/AbstractStringBuilder" "coder" "B" (.int 0)) (q3_ : Fld Z h0 a1 "java/lang/AbstractStringBuilder" "count" "I" (.int 8)) (q4_ : Arv Z h0 va kv .byte (8 : Int32) [v0, v1, v2, v3, v4, v5, v6, v7] (.int 0)) (q5_ : n0 ≤ a1) (q6_ : a1 ≠ va) (hcan : (¬ own_can p2 = (0 : Int32))) :
  MetFree l own_m5 (head1 (Jvm.Cond.code own_m5 jdk_68_method_31_code 2 (some (.object "java/lang/AbstractStringBuilder")) :: ws) (own_r 4 1 18 62)) (fun a U => a = #[(.ref a1), (.int p2)] ∧ Z.Warmed39 U.vm ∧ U.heap = h0) (fun _ _ _ _ _ => True) (fun _ U o U' => ∃ v L, o = .returned v ∧ QaaG8 Z a1 p2 wC va kv v0 v1 v2 v3 v4 v5 v6 v7 h0 n0 v U'.heap L ∧ FrameEnd U o U' L (own_r 4 1 18 62).cells (own_r 4 1 18 62).slots) := by
 refine MetFree.of_bodySF (plainFor_of_name pn_16) hisR ?_
 intro p e s m args below meth c s₁ Bd hml0 hP hK
 have H : ∀ (i : Nat) {d : Jvm.Cond}, tables_1[i]? = some d → d.before a0 Z = true := fun i _ h => hw _ (own_w i h)
 obtain ⟨rfl, hZ, hh⟩ := hP
 have hx := Bd.exec
 have hby := Bd.bytes
 have hml : c.maxLocals = 2 := hml0
 have hown0 := findClass_of_methodNamed Bd.named
 have hown : s.vm.findClass "java/lang/AbstractStringBuilder" = some m.cls := hown0
 have hnm := (name_of_methodNamed Bd.named Bd.method).1
 have X0 : Stand p l e (own_r 4 1 18 62) s m #[(.ref a1), (.int p2)] below meth c s₁ [] 0 0 := Stand.of_body Bd
 have e0 : s₁.heap = h0 := by rw [← hh, Bd.state]; rfl
 have N0 := Fr.nil n0
 obtain ⟨S0, hS0⟩ : ∃ z, z = s₁.setTop (entryFrame m #[(.ref a1), (.int p2)] 2) := ⟨_, rfl⟩
 have pre0 : own_Go p e below S0 (s₁.setTop (mkF m 0 #[vR a1, vI p2] [])) := fun t k => by rw [hS0]; exact castTop (ef_aaG8 m a1 p2) k
 have fin : ∀ t, Steps p.tables e below S0 t → Steps p.tables e below (s₁.setTop (entryFrame m #[(.ref a1), (.int p2)] 2)) t := fun t k => by rw [hS0] at k; exact k
 have kc0 : Keep h0 h0 [a1] := Keep.refl _ _
 have pre1 : own_Go p e below S0 (s₁.setTop (mkF m 2 #[vR a1, vI p2] [(.ref a1), (.ref a1)])) := by
  intro t kt
  refine pre0 t ?_
  refine XS.aloadN X0.here hx rfl (hb hby d16_0) rfl rfl ?_
  refine XS.aloadN X0.here hx rfl (hb hby d16_1) rfl rfl ?_
  exact kt
 obtain ⟨T2, X2, e2, st2⟩ := getF X0 hx hZ hown (host := "") (Or.inl (H 55 rfl)) Via.refl e0 q3_ (g := (own_top pre1)) rfl rfl (hb hby d16_2)
 have pre3 : own_Go p e below S0 (T2.setTop (mkF m 7 #[vR a1, vI p2] [(.int 9), (.ref a1)])) := by
  intro t kt
  refine pre1 t ?_
  refine st2 _ ?_
  refine XS.iconst X2.here hx rfl (hb hby d16_5) ?_
  refine XS.iadd X2.here hx rfl (hb hby d16_6) rfl ?_
  exact kt
 obtain ⟨cq4, qa4, qb4⟩ := q0_.cell
 obtain ⟨_, _, ⟨T4, L4, k4, n4⟩, -, X4, ⟨Lc4, hQ4, l4, y4, z4⟩, st4⟩ := X2.privateBack hx (y := own_m6) hown (mvT hZ (H 99 rfl)) (mvT hZ (H 100 rfl)) (own_selPriv3 (C := "java/lang/StringBuilder") (by decide) (mvT hZ (H 102 rfl)) (mvP hZ (H 101 rfl)) (mvT hZ (H 100 rfl))) (Cond.privateMethod_at (mvP hZ (H 101 rfl) (args := #[]))) (mvT hZ (H 103 rfl)) (by decide) (backOf (W := 0) (rmensG8 l Z a0 hw [] a1 va kv v0 v1 v2 v3 v4 v5 v6 v7 h0 n0 Z0 q0_ q1_ q2_ q3_ q4_ q5_ q6_) hZ (H 103 rfl) (H 15 rfl) (by decide) (by decide)) (g := (own_top pre3)) rfl (by rw [hml]; rfl) (Steps.refl _) (a := a1) (by rw [e2]; exact qa4) qb4 (argsL := [(.int 9)]) (rest := []) (lenOf pd_4 rfl) rfl (by show 2 * 0 + _ ≤ _; exact Nat.le_of_eq rfl) (hb hby d16_7) (fun _ _ => ⟨rfl, e2, (by decide : 0 + 1 ≤ _), (by decide : 0 + 18 ≤ _)⟩)
 dsimp only [Pt.U, Pt.locs, Pt.cells, Pt.slots] at X4 l4 y4 z4 st4 hQ4
 subst l4 y4 z4
 obtain ⟨b5, kb6, rfl, Nq4, K4, g7, g8, g9, g10, g11, g12, g13⟩ := hQ4
 have N4 := Fr.app N0 Nq4
 have ne14 : a1 ≠ b5 := Nat.ne_of_lt (Nat.lt_of_lt_of_le q0_.lt g7)
 have ne15 : va ≠ b5 := Nat.ne_of_lt (Nat.lt_of_lt_of_le q4_.lt g7)
 have ge16 : n0 ≤ b5 := Nat.le_trans Z0 g7
 have sz17 : h0.size ≤ b5 := Nat.le_trans kc0.1 g7
 have zs18 : n0 ≤ T4.heap.size := Nat.le_trans Z0 K4.1
 have kc19 : Keep h0 T4.heap [a1] := kc0.trans K4 (allS (Or.inl (List.mem_of_getElem? (i := 0) rfl)) all0)
 have pre20 : own_Go p e below S0 (T4.setTop (mkF m 11 #[vR a1, vI p2] [(.ref a1)])) := by
  intro t kt
  refine pre3 t ?_
  refine st4.trans ?_
  show Steps p.tables e below (T4.setTop (mkF m 10 #[vR a1, vI p2] [])) _
  refine XS.aloadN X4.here hx rfl (hb hby d16_10) rfl rfl ?_
  exact kt
 have f21 : Old Z n0 T4.heap := (O0.keep K4 (allS q5_ all0))
 obtain ⟨cq22, kq22, qa22, qb22, qc22⟩ := isOf hZ rfl g10
 obtain ⟨_, _, ⟨T22, L22, k22, n22⟩, -, X22, ⟨Lc22, hQ22, l22, y22, z22⟩, st22⟩ := X4.virtualBack hx (y := own_m8) (z := own_m8) hown (mvT hZ (H 104 rfl)) (mvT hZ (H 58 rfl)) (notFace_of_selects (args := #[]) (mvT hZ (H 60 rfl))) (mvT hZ (H 60 rfl)) (mvT hZ (H 59 rfl)) (by decide) (backOf (W := 0) (rmasl l Z a0 hw [] a1 wC T4.heap n0 zs18 f21 qC g12) hZ (H 61 rfl) (H 15 rfl) (by decide) (by decide)) qa22 qc22 (g := (own_top pre20)) rfl (by rw [hml]; rfl) (Steps.refl _) (argsL := []) (rest := []) (lenOf pd_7 rfl) rfl (by show 2 * 0 + _ ≤ _; exact Nat.le_of_eq rfl) (hb hby d16_11) (fun _ _ => ⟨rfl, rfl, (by decide : 1 + 0 ≤ _), (by decide : 18 + 0 ≤ _)⟩)
 dsimp only [Pt.U, Pt.locs, Pt.cells, Pt.slots] at X22 l22 y22 z22 st22 hQ22
 subst l22 y22 z22
 obtain ⟨rfl, Nq22, eq22⟩ := hQ22
 have N22 := Fr.app N4 Nq22
 have pre23 : own_Go p e below S0 (T22.setTop (mkF m 18 #[vR a1, vI p2] [(.int p2)])) := by
  intro t kt
  refine pre20 t ?_
  refine st22.trans ?_
  show Steps p.tables e below (T22.setTop (mkF m 14 #[vR a1, vI p2] [(.int 1)])) _
  refine XS.ifNo X22.here hx rfl (hb hby d16_14) rfl ((if0 _ _).trans (feq (by decide : ¬ ((1 : Int32) = (0 : Int32)))).1) ?_
  refine XS.iloadN X22.here hx rfl (hb hby d16_17) rfl ?_
  exact kt
 obtain ⟨_, _, ⟨T24, L24, k24, n24⟩, -, X24, ⟨Lc24, hQ24, l24, y24, z24⟩, st24⟩ := Jvm.LawKit.callS X22 hx (y := own_m24) hown (mvT hZ (H 105 rfl)) (mvT hZ (H 106 rfl)) (mvT hZ (H 107 rfl)) (mvT hZ (H 108 rfl)) (by decide) (backOf (W := 0) (rm18 l Z a0 hw [] p2 T4.heap n0 zs18 ) hZ (H 108 rfl) (H 107 rfl) (by decide) (by decide)) (g := (own_top pre23)) rfl (by rw [hml]; rfl) (argsL := [(.int p2)]) (rest := []) (lenOf pd_8 rfl) rfl (by show 2 * 0 + _ ≤ _; exact Nat.le_of_eq rfl) (hb hby d16_18) (fun _ _ => ⟨rfl, eq22, (by decide : 1 + 0 ≤ _), (by decide : 18 + 0 ≤ _)⟩)
 dsimp only [Pt.U, Pt.locs, Pt.cells, Pt.slots] at X24 l24 y24 z24 st24 hQ24
 subst l24 y24 z24
 obtain ⟨rfl, Nq24, eq24⟩ := hQ24
 have N24 := Fr.app N22 Nq24
 have pre25 : own_Go p e below S0 (T24.setTop (mkF m 25 #[vR a1, vI p2] [(.ref a1)])) := by
  intro t kt
  refine pre23 t ?_
  refine st24 _ ?_
  show Steps p.tables e below (T24.setTop (mkF m 21 #[vR a1, vI p2] [(.int (own_can p2))])) _
  refine XS.ifNo X24.here hx rfl (hb hby d16_21) rfl ((if0 _ _).trans (feq hcan).1) ?_
  refine XS.aloadN X24.here hx rfl (hb hby d16_24) rfl rfl ?_
  exact kt
 obtain ⟨T26, X26, e26, st26⟩ := getF X24 hx hZ hown (host := "") (Or.inl (H 22 rfl)) Via.refl eq24 g11 (g := (own_top pre25)) rfl rfl (hb hby d16_25)
 have pre27 : own_Go p e below S0 (T26.setTop (mkF m 30 #[vR a1, vI p2] [(.ref a1), (.ref a1), (.ref b5)])) := by
  intro t kt
  refine pre25 t ?_
  refine st26 _ ?_
  refine XS.aloadN X26.here hx rfl (hb hby d16_28) rfl rfl ?_
  refine XS.dup X26.here hx rfl (hb hby d16_29) rfl rfl ?_
  exact kt
 obtain ⟨T28, X28, e28, st28⟩ := getF X26 hx hZ hown (host := "") (Or.inl (H 55 rfl)) Via.refl e26 g13 (g := (own_top pre27)) rfl rfl (hb hby d16_30)
 have pre29 : own_Go p e below S0 (T28.setTop (mkF m 36 #[vR a1, vI p2] [(.int 9), (.ref a1), (.int 8), (.ref b5)])) := by
  intro t kt
  refine pre27 t ?_
  refine st28 _ ?_
  refine XS.dupX1 X28.here hx rfl (hb hby d16_33) rfl rfl rfl ?_
  refine XS.iconst X28.here hx rfl (hb hby d16_34) ?_
  refine XS.iadd X28.here hx rfl (hb hby d16_35) rfl ?_
  exact kt
 obtain ⟨T30, h30, X30, e30, W30, st30⟩ := putF X28 hx hZ hown (host := "") (Or.inl (H 55 rfl)) Via.refl e28 g13 g10 (Or.inl (H 56 rfl)) (H 6 rfl) (ty := .int) (by decide) rfl rfl (g := (own_top pre29)) rfl rfl (hb hby d16_36)
 have N30 := Fr.snoc X30 N24 q5_
 have zs31 : n0 ≤ h30.size := Nat.le_trans zs18 (Keep.of_wr W30).1
 have kc32 : Keep h0 h30 [a1] := kc19.wr W30 (Or.inl (List.mem_of_getElem? (i := 0) rfl))
 have fw30 : Fld Z h30 a1 "java/lang/AbstractStringBuilder" "count" "I" (.int 9) := g13.same W30
 have pre33 : own_Go p e below S0 (T30.setTop (mkF m 41 #[vR a1, vI p2] [(.int (p2.toInt8.toInt32)), (.int 8), (.ref b5)])) := by
  intro t kt
  refine pre29 t ?_
  refine st30 _ ?_
  refine XS.iloadN X30.here hx rfl (hb hby d16_39) rfl ?_
  refine XS.i2b X30.here hx rfl (hb hby d16_40) rfl ?_
  exact kt
 have f34 : Arv Z h30 b5 kb6 .byte (18 : Int32) [v0, v1, v2, v3, v4, v5, v6, v7, (.int 0), (.int 0), (.int 0), (.int 0), (.int 0), (.int 0), (.int 0), (.int 0), (.int 0), (.int 0)] (.int 0) := (g9.other W30 (Ne.symm ne14))
 obtain ⟨cl35, Ar35, q35, Sz35, Ng35, Hs35, Gt35⟩ := id f34
 have hin35 : ¬ ((8 : Int32) < 0 ∨ cl35.slots.size ≤ ((8 : Int32)).toNatClampNeg) := inb_of Sz35 ⟨by decide, by decide⟩
 obtain ⟨T35, h35, X35, e35, W35, st35⟩ := stB X30 hx hZ e30 Ar35 (j := (8 : Int32)) hin35 (g := (own_top pre33)) rfl rfl (hb hby d16_41)
 have N35 := Fr.snoc X35 N30 ge16
 have zs36 : n0 ≤ h35.size := Nat.le_trans zs31 (Keep.of_wr W35).1
 have kc37 : Keep h0 h35 [a1] := kc32.wr W35 (Or.inr sz17)
 have V35 : Arv Z h35 b5 kb6 .byte (18 : Int32) [v0, v1, v2, v3, v4, v5, v6, v7, (.int (nar .byte (p2.toInt8.toInt32))), (.int 0), (.int 0), (.int 0), (.int 0), (.int 0), (.int 0), (.int 0), (.int 0), (.int 0)] (.int 0) := Arv.set Ar35 q35 Sz35 Ng35 Hs35 Gt35 (fits_nar_byte _) W35 8 rfl (Nat.le_of_ble_eq_true rfl)
 have pre38 : own_Go p e below S0 (T35.setTop (mkF m 76 #[vR a1, vI p2] [(.ref a1)])) := by
  intro t kt
  refine pre33 t ?_
  refine st35 _ ?_
  refine XS.goto X35.here hx rfl (pc0 := 42) (pc' := 75) rfl (hb hby d16_42) (by decide) (by decide) ?_
  refine XS.aloadN X35.here hx rfl (hb hby d16_75) rfl rfl ?_
  exact kt
 obtain ⟨fs, hr, hrun, hended, hW, hsame⟩ := X35.leave (v := some (.ref a1)) (fun h => by rw [Bd.returns] at h; cases h)
 refine ⟨_, _, fin _ (pre38 _ ?_), hrun, hended, _, _, rfl, ?_, ⟨_, rfl⟩, hW, hsame.mono (by decide) (by decide)⟩
 ·jvm_step X35.here [X35.here.top, hx, (hb hby d16_76), X35.method', Bd.returns, Value.isRef, FieldType.isReference]
  first | (intro acts; rw [hr _ acts rfl rfl rfl]) | rw [hr _ _ rfl rfl rfl]
  exact Steps.refl _
 have f39 : Exa Z h35 b5 "[B" := ((g8.wr W30).wr W35)
 have f40 : Exa Z h35 a1 "java/lang/StringBuilder" := ((g10.wr W30).wr W35)
 have f41 : Fld Z h35 a1 "java/lang/AbstractStringBuilder" "value" "[B" (.ref b5) := ((g11.other W30 (Or.inr (slot_ne (Or.inl (H 23 rfl)) (Or.inl (H 56 rfl)) (by decide) (t := (.array .byte)) (t' := .int) (by decide) (by decide)))).other W35 (Or.inl ne14))
 have f42 : Fld Z h35 a1 "java/lang/AbstractStringBuilder" "coder" "B" (.int 0) := ((g12.other W30 (Or.inr (slot_ne (Or.inl (H 25 rfl)) (Or.inl (H 56 rfl)) (by decide) (t := .byte) (t' := .int) (by decide) (by decide)))).other W35 (Or.inl ne14))
 have f43 : Fld Z h35 a1 "java/lang/AbstractStringBuilder" "count" "I" (.int 9) := (fw30.other W35 (Or.inl ne14))
 ·show QaaG8 Z a1 p2 wC va kv v0 v1 v2 v3 v4 v5 v6 v7 h0 n0 _ T35.heap _
  rw [e35]
  exact ⟨b5, kb6, rfl, N35, kc37, sz17, f39, V35, f40, f41, f42, f43⟩

theorem ef_saG8 (m : MethodId) (x0 : Addr) (x1 : Int32) : entryFrame m #[(.ref x0), (.int x1)] 2 = mkF m 0 #[vR x0, vI x1] [] := by first | (simp [entryFrame, mkF, argsToLocals, Value.category]; done) | rfl
def QsaG8 (Z : State) (a1 : Addr) (p2 : Int32) (wC : Int32) (va : Addr) (kv : ClassId) (v0 : Value) (v1 : Value) (v2 : Value) (v3 : Value) (v4 : Value) (v5 : Value) (v6 : Value) (v7 : Value) (h0 : Heap) (n0 : Nat) (v : Option Value) (h : Heap) (L : List Loc) : Prop := ∃ b : Addr, ∃ kb : ClassId, v = (some (.ref a1)) ∧ Fr n0 L ∧ Keep h0 h [a1] ∧ h0.size ≤ b ∧ Exa Z h b "[B" ∧ Arv Z h b kb .byte (18 : Int32) [v0, v1, v2, v3, v4, v5, v6, v7, (.int (nar .byte (p2.toInt8.toInt32))), (.int 0), (.int 0), (.int 0), (.int 0), (.int 0), (.int 0), (.int 0), (.int 0), (.int 0)] (.int 0) ∧ Exa Z h a1 "java/lang/StringBuilder" ∧ Fld Z h a1 "java/lang/AbstractStringBuilder" "value" "[B" (.ref b) ∧ Fld Z h a1 "java/lang/AbstractStringBuilder" "coder" "B" (.int 0) ∧ Fld Z h a1 "java/lang/AbstractStringBuilder" "count" "I" (.int 9)
set_option maxRecDepth 65536 in
set_option maxHeartbeats 40000000 in
theorem rmsaG8 (l : Launch) (Z : State) (a0 : Array Value) (hw : ∀ d ∈ tables_1, d.before a0 Z = true) (ws : List Jvm.Cond) (a1 : Addr) (p2 : Int32) (wC : Int32) (va : Addr) (kv : ClassId) (v0 : Value) (v1 : Value) (v2 : Value) (v3 : Value) (v4 : Value) (v5 : Value) (v6 : Value) (v7 : Value) (h0 : Heap) (n0 : Nat) (Z0 : n0 ≤ h0.size) (O0 : Old Z n0 h0) (qC : (own_SC Z wC)) (q0_ : Exa Z h0 a1 "java/lang/StringBuilder") (q1_ : Fld Z h0 a1 "java/lang/AbstractStringBuilder" "value" "[B" (.ref va)) (q2_ : Fld Z h0 a1 "java/lang/AbstractStringBuilder" "coder" "B" (.int 0)) (q3_ : Fld Z h0 a1 "java/lang/AbstractStringBuilder" "count" "I" (.int 8)) (q4_ : Arv Z h0 va kv .byte (8 : Int32) [v0, v1, v2, v3, v4, v5, v6, v7] (.int 0)) (q5_ : n0 ≤ a1) (q6_ : a1 ≠ va) (hcan : (¬ own_can p2 = (0 : Int32))) :
  MetFree l own_m21 (head1 (Jvm.Cond.code own_m21 jdk_67_method_14_code 2 (some (.object "java/lang/StringBuilder")) :: ws) (own_r 5 1 18 75)) (fun a U => a = #[(.ref a1), (.int p2)] ∧ Z.Warmed39 U.vm ∧ U.heap = h0) (fun _ _ _ _ _ => True) (fun _ U o U' => ∃ v L, o = .returned v ∧ QsaG8 Z a1 p2 wC va kv v0 v1 v2 v3 v4 v5 v6 v7 h0 n0 v U'.heap L ∧ FrameEnd U o U' L (own_r 5 1 18 75).cells (own_r 5 1 18 75).slots) := by
 refine MetFree.of_bodySF (plainFor_of_name pn_15) hisR ?_
 intro p e s m args below meth c s₁ Bd hml0 hP hK
 have H : ∀ (i : Nat) {d : Jvm.Cond}, tables_1[i]? = some d → d.before a0 Z = true := fun i _ h => hw _ (own_w i h)
 obtain ⟨rfl, hZ, hh⟩ := hP
 have hx := Bd.exec
 have hby := Bd.bytes
 have hml : c.maxLocals = 2 := hml0
 have hown0 := findClass_of_methodNamed Bd.named
 have hown : s.vm.findClass "java/lang/StringBuilder" = some m.cls := hown0
 have hnm := (name_of_methodNamed Bd.named Bd.method).1
 have X0 : Stand p l e (own_r 5 1 18 75) s m #[(.ref a1), (.int p2)] below meth c s₁ [] 0 0 := Stand.of_body Bd
 have e0 : s₁.heap = h0 := by rw [← hh, Bd.state]; rfl
 have N0 := Fr.nil n0
 obtain ⟨S0, hS0⟩ : ∃ z, z = s₁.setTop (entryFrame m #[(.ref a1), (.int p2)] 2) := ⟨_, rfl⟩
 have pre0 : own_Go p e below S0 (s₁.setTop (mkF m 0 #[vR a1, vI p2] [])) := fun t k => by rw [hS0]; exact castTop (ef_saG8 m a1 p2) k
 have fin : ∀ t, Steps p.tables e below S0 t → Steps p.tables e below (s₁.setTop (entryFrame m #[(.ref a1), (.int p2)] 2)) t := fun t k => by rw [hS0] at k; exact k
 have kc0 : Keep h0 h0 [a1] := Keep.refl _ _
 have pre1 : own_Go p e below S0 (s₁.setTop (mkF m 2 #[vR a1, vI p2] [(.int p2), (.ref a1)])) := by
  intro t kt
  refine pre0 t ?_
  refine XS.aloadN X0.here hx rfl (hb hby d15_0) rfl rfl ?_
  refine XS.iloadN X0.here hx rfl (hb hby d15_1) rfl ?_
  exact kt
 obtain ⟨_, _, ⟨T2, L2, k2, n2⟩, -, X2, ⟨Lc2, hQ2, l2, y2, z2⟩, st2⟩ := superBack X0 hx hZ (y := own_m5) hown (H 95 rfl) (own_same (C := "java/lang/StringBuilder") (w := own_m7) (z := own_m7) rfl (by decide) (H 44 rfl) (H 96 rfl)) (H 96 rfl) (H 53 rfl) (by decide) (backOf (W := 0) (rmaaG8 l Z a0 hw [] a1 p2 wC va kv v0 v1 v2 v3 v4 v5 v6 v7 h0 n0 Z0 O0 qC q0_ q1_ q2_ q3_ q4_ q5_ q6_ hcan) hZ (H 98 rfl) (H 15 rfl) (by decide) (by decide)) e0 (Ins.self q0_) (g := (own_top pre1)) rfl (by rw [hml]; rfl) (H 98 rfl) (a := a1) (argsL := [(.int p2)]) (rest := []) (lenOf pd_9 rfl) rfl (by show 2 * 0 + _ ≤ _; exact Nat.le_of_eq rfl) (hb hby d15_2) (fun _ _ => ⟨rfl, e0, (by decide : 0 + 1 ≤ _), (by decide : 0 + 18 ≤ _)⟩)
 dsimp only [Pt.U, Pt.locs, Pt.cells, Pt.slots] at X2 l2 y2 z2 st2 hQ2
 subst l2 y2 z2
 obtain ⟨b3, kb4, rfl, Nq2, K2, g5, g6, g7, g8, g9, g10, g11⟩ := hQ2
 have N2 := Fr.app N0 Nq2
 have ne12 : a1 ≠ b3 := Nat.ne_of_lt (Nat.lt_of_lt_of_le q0_.lt g5)
 have ne13 : va ≠ b3 := Nat.ne_of_lt (Nat.lt_of_lt_of_le q4_.lt g5)
 have ge14 : n0 ≤ b3 := Nat.le_trans Z0 g5
 have sz15 : h0.size ≤ b3 := Nat.le_trans kc0.1 g5
 have zs16 : n0 ≤ T2.heap.size := Nat.le_trans Z0 K2.1
 have kc17 : Keep h0 T2.heap [a1] := kc0.trans K2 (allS (Or.inl (List.mem_of_getElem? (i := 0) rfl)) all0)
 have pre18 : own_Go p e below S0 (T2.setTop (mkF m 7 #[vR a1, vI p2] [(.ref a1)])) := by
  intro t kt
  refine pre1 t ?_
  refine st2.trans ?_
  show Steps p.tables e below (T2.setTop (mkF m 5 #[vR a1, vI p2] [(.ref a1)])) _
  refine XS.pop X2.here hx rfl (hb hby d15_5) rfl rfl ?_
  refine XS.aloadN X2.here hx rfl (hb hby d15_6) rfl rfl ?_
  exact kt
 obtain ⟨fs, hr, hrun, hended, hW, hsame⟩ := X2.leave (v := some (.ref a1)) (fun h => by rw [Bd.returns] at h; cases h)
 refine ⟨_, _, fin _ (pre18 _ ?_), hrun, hended, _, _, rfl, ?_, ⟨_, rfl⟩, hW, hsame.mono (by decide) (by decide)⟩
 ·jvm_step X2.here [X2.here.top, hx, (hb hby d15_7), X2.method', Bd.returns, Value.isRef, FieldType.isReference]
  first | (intro acts; rw [hr _ acts rfl rfl rfl]) | rw [hr _ _ rfl rfl rfl]
  exact Steps.refl _
 ·show QsaG8 Z a1 p2 wC va kv v0 v1 v2 v3 v4 v5 v6 v7 h0 n0 _ T2.heap _
  exact ⟨b3, kb4, rfl, N2, kc17, sz15, g6, g7, g8, g9, g10, g11⟩

def own_Fit1 (z1 : Int32) (vs : List Value) (cs : List Int32) : Prop := (z1 = 1 ∧ vs = [(.int 0)] ∧ cs = []) ∨ (∃ c0, z1 = 1 ∧ vs = [(.int (nar .byte (c0.toInt8.toInt32)))] ∧ cs = [c0]) ∨ (∃ c0 c1, z1 = 4 ∧ vs = [(.int (nar .byte (c0.toInt8.toInt32))), (.int (nar .byte (c1.toInt8.toInt32))), (.int 0), (.int 0)] ∧ cs = [c0, c1]) ∨ (∃ c0 c1 c2, z1 = 4 ∧ vs = [(.int (nar .byte (c0.toInt8.toInt32))), (.int (nar .byte (c1.toInt8.toInt32))), (.int (nar .byte (c2.toInt8.toInt32))), (.int 0)] ∧ cs = [c0, c1, c2])

def QsaA1 (Z : State) (a1 : Addr) (p2 : Int32) (wC : Int32) (va : Addr) (kv : ClassId) (z1 : Int32) (vs : List Value) (cs : List Int32) (h0 : Heap) (n0 : Nat) (v : Option Value) (h : Heap) (L : List Loc) : Prop := ∃ vb : Addr, ∃ kb : ClassId, ∃ z2 : Int32, ∃ vs2 : List Value, v = (some (.ref a1)) ∧ Fr n0 L ∧ Keep h0 h [a1, va] ∧ (vb = va ∨ h0.size ≤ vb) ∧ n0 ≤ vb ∧ a1 ≠ vb ∧ Exa Z h vb "[B" ∧ Arv Z h vb kb .byte z2 vs2 (.int 0) ∧ own_Fit1 z2 vs2 (cs ++ [p2]) ∧ Exa Z h a1 "java/lang/StringBuilder" ∧ Fld Z h a1 "java/lang/AbstractStringBuilder" "value" "[B" (.ref vb) ∧ Fld Z h a1 "java/lang/AbstractStringBuilder" "coder" "B" (.int 0) ∧ Fld Z h a1 "java/lang/AbstractStringBuilder" "count" "I" (.int (own_len (cs ++ [p2])))
set_option maxRecDepth 65536 in
set_option maxHeartbeats 40000000 in
theorem rmsaA1 (l : Launch) (Z : State) (a0 : Array Value) (hw : ∀ d ∈ tables_1, d.before a0 Z = true) (ws : List Jvm.Cond) (a1 : Addr) (p2 : Int32) (wC : Int32) (va : Addr) (kv : ClassId) (z1 : Int32) (vs : List Value) (cs : List Int32) (h0 : Heap) (n0 : Nat) (Z0 : n0 ≤ h0.size) (O0 : Old Z n0 h0) (qC : (own_SC Z wC)) (q0_ : Exa Z h0 a1 "java/lang/StringBuilder") (q1_ : Fld Z h0 a1 "java/lang/AbstractStringBuilder" "value" "[B" (.ref va)) (q2_ : Fld Z h0 a1 "java/lang/AbstractStringBuilder" "coder" "B" (.int 0)) (q3_ : Fld Z h0 a1 "java/lang/AbstractStringBuilder" "count" "I" (.int (own_len cs))) (q4_ : Exa Z h0 va "[B") (q5_ : Arv Z h0 va kv .byte z1 vs (.int 0)) (g1_ : n0 ≤ a1) (g2_ : n0 ≤ va) (n12 : a1 ≠ va) (hF : own_Fit1 z1 vs cs) (hlt : cs.length < 3) (hcan : ¬ own_can p2 = (0 : Int32)) :
  MetFree l own_m21 (head1 (Jvm.Cond.code own_m21 jdk_67_method_14_code 2 (some (.object "java/lang/StringBuilder")) :: ws) (own_r 5 1 18 75)) (fun a U => a = #[(.ref a1), (.int p2)] ∧ Z.Warmed39 U.vm ∧ U.heap = h0) (fun _ _ _ _ _ => True) (fun _ U o U' => ∃ v L, o = .returned v ∧ QsaA1 Z a1 p2 wC va kv z1 vs cs h0 n0 v U'.heap L ∧ FrameEnd U o U' L (own_r 5 1 18 75).cells (own_r 5 1 18 75).slots) := by
 rcases hF with ⟨rfl, rfl, rfl⟩ | ⟨c0, rfl, rfl, rfl⟩ | ⟨c0, c1, rfl, rfl, rfl⟩ | ⟨c0, c1, c2, rfl, rfl, rfl⟩
 ·refine (rmsaN l Z a0 hw ws a1 p2 wC va kv (1 : Int32) [(.int 0)] (0 : Int32) 0 h0 n0 Z0 O0 qC q0_ q1_ q2_ q3_ q5_ g1_ g2_ n12 (by decide) (by decide) (by decide) (Nat.le_of_ble_eq_true rfl) (by decide) hcan).mono (fun _ _ h => h) (fun _ _ _ _ _ h => h) ?_
  rintro a U o U' - ⟨v, L, ho, ⟨hv, hN, hK, hA, hE, hV, hC, hCt⟩, hfe⟩
  have e : (0 : Int32) + 1 = 1 := by decide
  rw [e] at hCt
  exact ⟨v, L, ho, ⟨va, kv, _, _, hv, hN, hK, Or.inl rfl, g2_, n12, q4_.keep hK, hA, (Or.inr (Or.inl ⟨p2, rfl, rfl, rfl⟩)), hE, hV, hC, hCt⟩, hfe⟩
 ·refine (rmsaG1 l Z a0 hw ws a1 p2 wC va kv (.int (nar .byte (c0.toInt8.toInt32))) h0 n0 Z0 O0 qC q0_ q1_ q2_ q3_ q5_ g1_ n12 hcan).mono (fun _ _ h => h) (fun _ _ _ _ _ h => h) ?_
  rintro a U o U' - ⟨v, L, ho, ⟨b, kb, hv, hN, hK, hs, hB, hA, hE, hV, hC, hCt⟩, hfe⟩
  exact ⟨v, L, ho, ⟨b, kb, _, _, hv, hN, (Keep.refl h0 [a1, va]).trans hK (allS (Or.inl (List.mem_of_getElem? (i := 0) rfl)) all0), Or.inr hs, Nat.le_trans Z0 hs, Nat.ne_of_lt (Nat.lt_of_lt_of_le q0_.lt hs), hB, hA, (Or.inr (Or.inr (Or.inl ⟨c0, p2, rfl, rfl, rfl⟩))), hE, hV, hC, hCt⟩, hfe⟩
 ·refine (rmsaN l Z a0 hw ws a1 p2 wC va kv (4 : Int32) [(.int (nar .byte (c0.toInt8.toInt32))), (.int (nar .byte (c1.toInt8.toInt32))), (.int 0), (.int 0)] (2 : Int32) 2 h0 n0 Z0 O0 qC q0_ q1_ q2_ q3_ q5_ g1_ g2_ n12 (by decide) (by decide) (by decide) (Nat.le_of_ble_eq_true rfl) (by decide) hcan).mono (fun _ _ h => h) (fun _ _ _ _ _ h => h) ?_
  rintro a U o U' - ⟨v, L, ho, ⟨hv, hN, hK, hA, hE, hV, hC, hCt⟩, hfe⟩
  have e : (2 : Int32) + 1 = 3 := by decide
  rw [e] at hCt
  exact ⟨v, L, ho, ⟨va, kv, _, _, hv, hN, hK, Or.inl rfl, g2_, n12, q4_.keep hK, hA, (Or.inr (Or.inr (Or.inr (⟨c0, c1, p2, rfl, rfl, rfl⟩)))), hE, hV, hC, hCt⟩, hfe⟩
 ·exact absurd hlt (Nat.lt_irrefl 3)

def own_Fit2 (z1 : Int32) (vs : List Value) (cs : List Int32) : Prop := (z1 = 2 ∧ vs = [(.int 0), (.int 0)] ∧ cs = []) ∨ (∃ c0, z1 = 2 ∧ vs = [(.int (nar .byte (c0.toInt8.toInt32))), (.int 0)] ∧ cs = [c0]) ∨ (∃ c0 c1, z1 = 2 ∧ vs = [(.int (nar .byte (c0.toInt8.toInt32))), (.int (nar .byte (c1.toInt8.toInt32)))] ∧ cs = [c0, c1]) ∨ (∃ c0 c1 c2, z1 = 6 ∧ vs = [(.int (nar .byte (c0.toInt8.toInt32))), (.int (nar .byte (c1.toInt8.toInt32))), (.int (nar .byte (c2.toInt8.toInt32))), (.int 0), (.int 0), (.int 0)] ∧ cs = [c0, c1, c2]) ∨ (∃ c0 c1 c2 c3, z1 = 6 ∧ vs = [(.int (nar .byte (c0.toInt8.toInt32))), (.int (nar .byte (c1.toInt8.toInt32))), (.int (nar .byte (c2.toInt8.toInt32))), (.int (nar .byte (c3.toInt8.toInt32))), (.int 0), (.int 0)] ∧ cs = [c0, c1, c2, c3]) ∨ (∃ c0 c1 c2 c3 c4, z1 = 6 ∧ vs = [(.int (nar .byte (c0.toInt8.toInt32))), (.int (nar .byte (c1.toInt8.toInt32))), (.int (nar .byte (c2.toInt8.toInt32))), (.int (nar .byte (c3.toInt8.toInt32))), (.int (nar .byte (c4.toInt8.toInt32))), (.int 0)] ∧ cs = [c0, c1, c2, c3, c4]) ∨ (∃ c0 c1 c2 c3 c4 c5, z1 = 6 ∧ vs = [(.int (nar .byte (c0.toInt8.toInt32))), (.int (nar .byte (c1.toInt8.toInt32))), (.int (nar .byte (c2.toInt8.toInt32))), (.int (nar .byte (c3.toInt8.toInt32))), (.int (nar .byte (c4.toInt8.toInt32))), (.int (nar .byte (c5.toInt8.toInt32)))] ∧ cs = [c0, c1, c2, c3, c4, c5])

def QsaA2 (Z : State) (a1 : Addr) (p2 : Int32) (wC : Int32) (va : Addr) (kv : ClassId) (z1 : Int32) (vs : List Value) (cs : List Int32) (h0 : Heap) (n0 : Nat) (v : Option Value) (h : Heap) (L : List Loc) : Prop := ∃ vb : Addr, ∃ kb : ClassId, ∃ z2 : Int32, ∃ vs2 : List Value, v = (some (.ref a1)) ∧ Fr n0 L ∧ Keep h0 h [a1, va] ∧ (vb = va ∨ h0.size ≤ vb) ∧ n0 ≤ vb ∧ a1 ≠ vb ∧ Exa Z h vb "[B" ∧ Arv Z h vb kb .byte z2 vs2 (.int 0) ∧ own_Fit2 z2 vs2 (cs ++ [p2]) ∧ Exa Z h a1 "java/lang/StringBuilder" ∧ Fld Z h a1 "java/lang/AbstractStringBuilder" "value" "[B" (.ref vb) ∧ Fld Z h a1 "java/lang/AbstractStringBuilder" "coder" "B" (.int 0) ∧ Fld Z h a1 "java/lang/AbstractStringBuilder" "count" "I" (.int (own_len (cs ++ [p2])))
set_option maxRecDepth 65536 in
set_option maxHeartbeats 40000000 in
theorem rmsaA2 (l : Launch) (Z : State) (a0 : Array Value) (hw : ∀ d ∈ tables_1, d.before a0 Z = true) (ws : List Jvm.Cond) (a1 : Addr) (p2 : Int32) (wC : Int32) (va : Addr) (kv : ClassId) (z1 : Int32) (vs : List Value) (cs : List Int32) (h0 : Heap) (n0 : Nat) (Z0 : n0 ≤ h0.size) (O0 : Old Z n0 h0) (qC : (own_SC Z wC)) (q0_ : Exa Z h0 a1 "java/lang/StringBuilder") (q1_ : Fld Z h0 a1 "java/lang/AbstractStringBuilder" "value" "[B" (.ref va)) (q2_ : Fld Z h0 a1 "java/lang/AbstractStringBuilder" "coder" "B" (.int 0)) (q3_ : Fld Z h0 a1 "java/lang/AbstractStringBuilder" "count" "I" (.int (own_len cs))) (q4_ : Exa Z h0 va "[B") (q5_ : Arv Z h0 va kv .byte z1 vs (.int 0)) (g1_ : n0 ≤ a1) (g2_ : n0 ≤ va) (n12 : a1 ≠ va) (hF : own_Fit2 z1 vs cs) (hlt : cs.length < 6) (hcan : ¬ own_can p2 = (0 : Int32)) :
  MetFree l own_m21 (head1 (Jvm.Cond.code own_m21 jdk_67_method_14_code 2 (some (.object "java/lang/StringBuilder")) :: ws) (own_r 5 1 18 75)) (fun a U => a = #[(.ref a1), (.int p2)] ∧ Z.Warmed39 U.vm ∧ U.heap = h0) (fun _ _ _ _ _ => True) (fun _ U o U' => ∃ v L, o = .returned v ∧ QsaA2 Z a1 p2 wC va kv z1 vs cs h0 n0 v U'.heap L ∧ FrameEnd U o U' L (own_r 5 1 18 75).cells (own_r 5 1 18 75).slots) := by
 rcases hF with ⟨rfl, rfl, rfl⟩ | ⟨c0, rfl, rfl, rfl⟩ | ⟨c0, c1, rfl, rfl, rfl⟩ | ⟨c0, c1, c2, rfl, rfl, rfl⟩ | ⟨c0, c1, c2, c3, rfl, rfl, rfl⟩ | ⟨c0, c1, c2, c3, c4, rfl, rfl, rfl⟩ | ⟨c0, c1, c2, c3, c4, c5, rfl, rfl, rfl⟩
 ·refine (rmsaN l Z a0 hw ws a1 p2 wC va kv (2 : Int32) [(.int 0), (.int 0)] (0 : Int32) 0 h0 n0 Z0 O0 qC q0_ q1_ q2_ q3_ q5_ g1_ g2_ n12 (by decide) (by decide) (by decide) (Nat.le_of_ble_eq_true rfl) (by decide) hcan).mono (fun _ _ h => h) (fun _ _ _ _ _ h => h) ?_
  rintro a U o U' - ⟨v, L, ho, ⟨hv, hN, hK, hA, hE, hV, hC, hCt⟩, hfe⟩
  have e : (0 : Int32) + 1 = 1 := by decide
  rw [e] at hCt
  exact ⟨v, L, ho, ⟨va, kv, _, _, hv, hN, hK, Or.inl rfl, g2_, n12, q4_.keep hK, hA, (Or.inr (Or.inl ⟨p2, rfl, rfl, rfl⟩)), hE, hV, hC, hCt⟩, hfe⟩
 ·refine (rmsaN l Z a0 hw ws a1 p2 wC va kv (2 : Int32) [(.int (nar .byte (c0.toInt8.toInt32))), (.int 0)] (1 : Int32) 1 h0 n0 Z0 O0 qC q0_ q1_ q2_ q3_ q5_ g1_ g2_ n12 (by decide) (by decide) (by decide) (Nat.le_of_ble_eq_true rfl) (by decide) hcan).mono (fun _ _ h => h) (fun _ _ _ _ _ h => h) ?_
  rintro a U o U' - ⟨v, L, ho, ⟨hv, hN, hK, hA, hE, hV, hC, hCt⟩, hfe⟩
  have e : (1 : Int32) + 1 = 2 := by decide
  rw [e] at hCt
  exact ⟨v, L, ho, ⟨va, kv, _, _, hv, hN, hK, Or.inl rfl, g2_, n12, q4_.keep hK, hA, (Or.inr (Or.inr (Or.inl ⟨c0, p2, rfl, rfl, rfl⟩))), hE, hV, hC, hCt⟩, hfe⟩
 ·refine (rmsaG2 l Z a0 hw ws a1 p2 wC va kv (.int (nar .byte (c0.toInt8.toInt32))) (.int (nar .byte (c1.toInt8.toInt32))) h0 n0 Z0 O0 qC q0_ q1_ q2_ q3_ q5_ g1_ n12 hcan).mono (fun _ _ h => h) (fun _ _ _ _ _ h => h) ?_
  rintro a U o U' - ⟨v, L, ho, ⟨b, kb, hv, hN, hK, hs, hB, hA, hE, hV, hC, hCt⟩, hfe⟩
  exact ⟨v, L, ho, ⟨b, kb, _, _, hv, hN, (Keep.refl h0 [a1, va]).trans hK (allS (Or.inl (List.mem_of_getElem? (i := 0) rfl)) all0), Or.inr hs, Nat.le_trans Z0 hs, Nat.ne_of_lt (Nat.lt_of_lt_of_le q0_.lt hs), hB, hA, (Or.inr (Or.inr (Or.inr (Or.inl ⟨c0, c1, p2, rfl, rfl, rfl⟩)))), hE, hV, hC, hCt⟩, hfe⟩
 ·refine (rmsaN l Z a0 hw ws a1 p2 wC va kv (6 : Int32) [(.int (nar .byte (c0.toInt8.toInt32))), (.int (nar .byte (c1.toInt8.toInt32))), (.int (nar .byte (c2.toInt8.toInt32))), (.int 0), (.int 0), (.int 0)] (3 : Int32) 3 h0 n0 Z0 O0 qC q0_ q1_ q2_ q3_ q5_ g1_ g2_ n12 (by decide) (by decide) (by decide) (Nat.le_of_ble_eq_true rfl) (by decide) hcan).mono (fun _ _ h => h) (fun _ _ _ _ _ h => h) ?_
  rintro a U o U' - ⟨v, L, ho, ⟨hv, hN, hK, hA, hE, hV, hC, hCt⟩, hfe⟩
  have e : (3 : Int32) + 1 = 4 := by decide
  rw [e] at hCt
  exact ⟨v, L, ho, ⟨va, kv, _, _, hv, hN, hK, Or.inl rfl, g2_, n12, q4_.keep hK, hA, (Or.inr (Or.inr (Or.inr (Or.inr (Or.inl ⟨c0, c1, c2, p2, rfl, rfl, rfl⟩))))), hE, hV, hC, hCt⟩, hfe⟩
 ·refine (rmsaN l Z a0 hw ws a1 p2 wC va kv (6 : Int32) [(.int (nar .byte (c0.toInt8.toInt32))), (.int (nar .byte (c1.toInt8.toInt32))), (.int (nar .byte (c2.toInt8.toInt32))), (.int (nar .byte (c3.toInt8.toInt32))), (.int 0), (.int 0)] (4 : Int32) 4 h0 n0 Z0 O0 qC q0_ q1_ q2_ q3_ q5_ g1_ g2_ n12 (by decide) (by decide) (by decide) (Nat.le_of_ble_eq_true rfl) (by decide) hcan).mono (fun _ _ h => h) (fun _ _ _ _ _ h => h) ?_
  rintro a U o U' - ⟨v, L, ho, ⟨hv, hN, hK, hA, hE, hV, hC, hCt⟩, hfe⟩
  have e : (4 : Int32) + 1 = 5 := by decide
  rw [e] at hCt
  exact ⟨v, L, ho, ⟨va, kv, _, _, hv, hN, hK, Or.inl rfl, g2_, n12, q4_.keep hK, hA, (Or.inr (Or.inr (Or.inr (Or.inr (Or.inr (Or.inl ⟨c0, c1, c2, c3, p2, rfl, rfl, rfl⟩)))))), hE, hV, hC, hCt⟩, hfe⟩
 ·refine (rmsaN l Z a0 hw ws a1 p2 wC va kv (6 : Int32) [(.int (nar .byte (c0.toInt8.toInt32))), (.int (nar .byte (c1.toInt8.toInt32))), (.int (nar .byte (c2.toInt8.toInt32))), (.int (nar .byte (c3.toInt8.toInt32))), (.int (nar .byte (c4.toInt8.toInt32))), (.int 0)] (5 : Int32) 5 h0 n0 Z0 O0 qC q0_ q1_ q2_ q3_ q5_ g1_ g2_ n12 (by decide) (by decide) (by decide) (Nat.le_of_ble_eq_true rfl) (by decide) hcan).mono (fun _ _ h => h) (fun _ _ _ _ _ h => h) ?_
  rintro a U o U' - ⟨v, L, ho, ⟨hv, hN, hK, hA, hE, hV, hC, hCt⟩, hfe⟩
  have e : (5 : Int32) + 1 = 6 := by decide
  rw [e] at hCt
  exact ⟨v, L, ho, ⟨va, kv, _, _, hv, hN, hK, Or.inl rfl, g2_, n12, q4_.keep hK, hA, (Or.inr (Or.inr (Or.inr (Or.inr (Or.inr (Or.inr (⟨c0, c1, c2, c3, c4, p2, rfl, rfl, rfl⟩))))))), hE, hV, hC, hCt⟩, hfe⟩
 ·exact absurd hlt (Nat.lt_irrefl 6)

def own_Fit3 (z1 : Int32) (vs : List Value) (cs : List Int32) : Prop := (z1 = 3 ∧ vs = [(.int 0), (.int 0), (.int 0)] ∧ cs = []) ∨ (∃ c0, z1 = 3 ∧ vs = [(.int (nar .byte (c0.toInt8.toInt32))), (.int 0), (.int 0)] ∧ cs = [c0]) ∨ (∃ c0 c1, z1 = 3 ∧ vs = [(.int (nar .byte (c0.toInt8.toInt32))), (.int (nar .byte (c1.toInt8.toInt32))), (.int 0)] ∧ cs = [c0, c1]) ∨ (∃ c0 c1 c2, z1 = 3 ∧ vs = [(.int (nar .byte (c0.toInt8.toInt32))), (.int (nar .byte (c1.toInt8.toInt32))), (.int (nar .byte (c2.toInt8.toInt32)))] ∧ cs = [c0, c1, c2]) ∨ (∃ c0 c1 c2 c3, z1 = 8 ∧ vs = [(.int (nar .byte (c0.toInt8.toInt32))), (.int (nar .byte (c1.toInt8.toInt32))), (.int (nar .byte (c2.toInt8.toInt32))), (.int (nar .byte (c3.toInt8.toInt32))), (.int 0), (.int 0), (.int 0), (.int 0)] ∧ cs = [c0, c1, c2, c3]) ∨ (∃ c0 c1 c2 c3 c4, z1 = 8 ∧ vs = [(.int (nar .byte (c0.toInt8.toInt32))), (.int (nar .byte (c1.toInt8.toInt32))), (.int (nar .byte (c2.toInt8.toInt32))), (.int (nar .byte (c3.toInt8.toInt32))), (.int (nar .byte (c4.toInt8.toInt32))), (.int 0), (.int 0), (.int 0)] ∧ cs = [c0, c1, c2, c3, c4]) ∨ (∃ c0 c1 c2 c3 c4 c5, z1 = 8 ∧ vs = [(.int (nar .byte (c0.toInt8.toInt32))), (.int (nar .byte (c1.toInt8.toInt32))), (.int (nar .byte (c2.toInt8.toInt32))), (.int (nar .byte (c3.toInt8.toInt32))), (.int (nar .byte (c4.toInt8.toInt32))), (.int (nar .byte (c5.toInt8.toInt32))), (.int 0), (.int 0)] ∧ cs = [c0, c1, c2, c3, c4, c5]) ∨ (∃ c0 c1 c2 c3 c4 c5 c6, z1 = 8 ∧ vs = [(.int (nar .byte (c0.toInt8.toInt32))), (.int (nar .byte (c1.toInt8.toInt32))), (.int (nar .byte (c2.toInt8.toInt32))), (.int (nar .byte (c3.toInt8.toInt32))), (.int (nar .byte (c4.toInt8.toInt32))), (.int (nar .byte (c5.toInt8.toInt32))), (.int (nar .byte (c6.toInt8.toInt32))), (.int 0)] ∧ cs = [c0, c1, c2, c3, c4, c5, c6]) ∨ (∃ c0 c1 c2 c3 c4 c5 c6 c7, z1 = 8 ∧ vs = [(.int (nar .byte (c0.toInt8.toInt32))), (.int (nar .byte (c1.toInt8.toInt32))), (.int (nar .byte (c2.toInt8.toInt32))), (.int (nar .byte (c3.toInt8.toInt32))), (.int (nar .byte (c4.toInt8.toInt32))), (.int (nar .byte (c5.toInt8.toInt32))), (.int (nar .byte (c6.toInt8.toInt32))), (.int (nar .byte (c7.toInt8.toInt32)))] ∧ cs = [c0, c1, c2, c3, c4, c5, c6, c7]) ∨ (∃ c0 c1 c2 c3 c4 c5 c6 c7 c8, z1 = 18 ∧ vs = [(.int (nar .byte (c0.toInt8.toInt32))), (.int (nar .byte (c1.toInt8.toInt32))), (.int (nar .byte (c2.toInt8.toInt32))), (.int (nar .byte (c3.toInt8.toInt32))), (.int (nar .byte (c4.toInt8.toInt32))), (.int (nar .byte (c5.toInt8.toInt32))), (.int (nar .byte (c6.toInt8.toInt32))), (.int (nar .byte (c7.toInt8.toInt32))), (.int (nar .byte (c8.toInt8.toInt32))), (.int 0), (.int 0), (.int 0), (.int 0), (.int 0), (.int 0), (.int 0), (.int 0), (.int 0)] ∧ cs = [c0, c1, c2, c3, c4, c5, c6, c7, c8])

def QsaA3 (Z : State) (a1 : Addr) (p2 : Int32) (wC : Int32) (va : Addr) (kv : ClassId) (z1 : Int32) (vs : List Value) (cs : List Int32) (h0 : Heap) (n0 : Nat) (v : Option Value) (h : Heap) (L : List Loc) : Prop := ∃ vb : Addr, ∃ kb : ClassId, ∃ z2 : Int32, ∃ vs2 : List Value, v = (some (.ref a1)) ∧ Fr n0 L ∧ Keep h0 h [a1, va] ∧ (vb = va ∨ h0.size ≤ vb) ∧ n0 ≤ vb ∧ a1 ≠ vb ∧ Exa Z h vb "[B" ∧ Arv Z h vb kb .byte z2 vs2 (.int 0) ∧ own_Fit3 z2 vs2 (cs ++ [p2]) ∧ Exa Z h a1 "java/lang/StringBuilder" ∧ Fld Z h a1 "java/lang/AbstractStringBuilder" "value" "[B" (.ref vb) ∧ Fld Z h a1 "java/lang/AbstractStringBuilder" "coder" "B" (.int 0) ∧ Fld Z h a1 "java/lang/AbstractStringBuilder" "count" "I" (.int (own_len (cs ++ [p2])))
set_option maxRecDepth 65536 in
set_option maxHeartbeats 40000000 in
theorem rmsaA3 (l : Launch) (Z : State) (a0 : Array Value) (hw : ∀ d ∈ tables_1, d.before a0 Z = true) (ws : List Jvm.Cond) (a1 : Addr) (p2 : Int32) (wC : Int32) (va : Addr) (kv : ClassId) (z1 : Int32) (vs : List Value) (cs : List Int32) (h0 : Heap) (n0 : Nat) (Z0 : n0 ≤ h0.size) (O0 : Old Z n0 h0) (qC : (own_SC Z wC)) (q0_ : Exa Z h0 a1 "java/lang/StringBuilder") (q1_ : Fld Z h0 a1 "java/lang/AbstractStringBuilder" "value" "[B" (.ref va)) (q2_ : Fld Z h0 a1 "java/lang/AbstractStringBuilder" "coder" "B" (.int 0)) (q3_ : Fld Z h0 a1 "java/lang/AbstractStringBuilder" "count" "I" (.int (own_len cs))) (q4_ : Exa Z h0 va "[B") (q5_ : Arv Z h0 va kv .byte z1 vs (.int 0)) (g1_ : n0 ≤ a1) (g2_ : n0 ≤ va) (n12 : a1 ≠ va) (hF : own_Fit3 z1 vs cs) (hlt : cs.length < 9) (hcan : ¬ own_can p2 = (0 : Int32)) :
  MetFree l own_m21 (head1 (Jvm.Cond.code own_m21 jdk_67_method_14_code 2 (some (.object "java/lang/StringBuilder")) :: ws) (own_r 5 1 18 75)) (fun a U => a = #[(.ref a1), (.int p2)] ∧ Z.Warmed39 U.vm ∧ U.heap = h0) (fun _ _ _ _ _ => True) (fun _ U o U' => ∃ v L, o = .returned v ∧ QsaA3 Z a1 p2 wC va kv z1 vs cs h0 n0 v U'.heap L ∧ FrameEnd U o U' L (own_r 5 1 18 75).cells (own_r 5 1 18 75).slots) := by
 rcases hF with ⟨rfl, rfl, rfl⟩ | ⟨c0, rfl, rfl, rfl⟩ | ⟨c0, c1, rfl, rfl, rfl⟩ | ⟨c0, c1, c2, rfl, rfl, rfl⟩ | ⟨c0, c1, c2, c3, rfl, rfl, rfl⟩ | ⟨c0, c1, c2, c3, c4, rfl, rfl, rfl⟩ | ⟨c0, c1, c2, c3, c4, c5, rfl, rfl, rfl⟩ | ⟨c0, c1, c2, c3, c4, c5, c6, rfl, rfl, rfl⟩ | ⟨c0, c1, c2, c3, c4, c5, c6, c7, rfl, rfl, rfl⟩ | ⟨c0, c1, c2, c3, c4, c5, c6, c7, c8, rfl, rfl, rfl⟩
 ·refine (rmsaN l Z a0 hw ws a1 p2 wC va kv (3 : Int32) [(.int 0), (.int 0), (.int 0)] (0 : Int32) 0 h0 n0 Z0 O0 qC q0_ q1_ q2_ q3_ q5_ g1_ g2_ n12 (by decide) (by decide) (by decide) (Nat.le_of_ble_eq_true rfl) (by decide) hcan).mono (fun _ _ h => h) (fun _ _ _ _ _ h => h) ?_
  rintro a U o U' - ⟨v, L, ho, ⟨hv, hN, hK, hA, hE, hV, hC, hCt⟩, hfe⟩
  have e : (0 : Int32) + 1 = 1 := by decide
  rw [e] at hCt
  exact ⟨v, L, ho, ⟨va, kv, _, _, hv, hN, hK, Or.inl rfl, g2_, n12, q4_.keep hK, hA, (Or.inr (Or.inl ⟨p2, rfl, rfl, rfl⟩)), hE, hV, hC, hCt⟩, hfe⟩
 ·refine (rmsaN l Z a0 hw ws a1 p2 wC va kv (3 : Int32) [(.int (nar .byte (c0.toInt8.toInt32))), (.int 0), (.int 0)] (1 : Int32) 1 h0 n0 Z0 O0 qC q0_ q1_ q2_ q3_ q5_ g1_ g2_ n12 (by decide) (by decide) (by decide) (Nat.le_of_ble_eq_true rfl) (by decide) hcan).mono (fun _ _ h => h) (fun _ _ _ _ _ h => h) ?_
  rintro a U o U' - ⟨v, L, ho, ⟨hv, hN, hK, hA, hE, hV, hC, hCt⟩, hfe⟩
  have e : (1 : Int32) + 1 = 2 := by decide
  rw [e] at hCt
  exact ⟨v, L, ho, ⟨va, kv, _, _, hv, hN, hK, Or.inl rfl, g2_, n12, q4_.keep hK, hA, (Or.inr (Or.inr (Or.inl ⟨c0, p2, rfl, rfl, rfl⟩))), hE, hV, hC, hCt⟩, hfe⟩
 ·refine (rmsaN l Z a0 hw ws a1 p2 wC va kv (3 : Int32) [(.int (nar .byte (c0.toInt8.toInt32))), (.int (nar .byte (c1.toInt8.toInt32))), (.int 0)] (2 : Int32) 2 h0 n0 Z0 O0 qC q0_ q1_ q2_ q3_ q5_ g1_ g2_ n12 (by decide) (by decide) (by decide) (Nat.le_of_ble_eq_true rfl) (by decide) hcan).mono (fun _ _ h => h) (fun _ _ _ _ _ h => h) ?_
  rintro a U o U' - ⟨v, L, ho, ⟨hv, hN, hK, hA, hE, hV, hC, hCt⟩, hfe⟩
  have e : (2 : Int32) + 1 = 3 := by decide
  rw [e] at hCt
  exact ⟨v, L, ho, ⟨va, kv, _, _, hv, hN, hK, Or.inl rfl, g2_, n12, q4_.keep hK, hA, (Or.inr (Or.inr (Or.inr (Or.inl ⟨c0, c1, p2, rfl, rfl, rfl⟩)))), hE, hV, hC, hCt⟩, hfe⟩
 ·refine (rmsaG3 l Z a0 hw ws a1 p2 wC va kv (.int (nar .byte (c0.toInt8.toInt32))) (.int (nar .byte (c1.toInt8.toInt32))) (.int (nar .byte (c2.toInt8.toInt32))) h0 n0 Z0 O0 qC q0_ q1_ q2_ q3_ q5_ g1_ n12 hcan).mono (fun _ _ h => h) (fun _ _ _ _ _ h => h) ?_
  rintro a U o U' - ⟨v, L, ho, ⟨b, kb, hv, hN, hK, hs, hB, hA, hE, hV, hC, hCt⟩, hfe⟩
  exact ⟨v, L, ho, ⟨b, kb, _, _, hv, hN, (Keep.refl h0 [a1, va]).trans hK (allS (Or.inl (List.mem_of_getElem? (i := 0) rfl)) all0), Or.inr hs, Nat.le_trans Z0 hs, Nat.ne_of_lt (Nat.lt_of_lt_of_le q0_.lt hs), hB, hA, (Or.inr (Or.inr (Or.inr (Or.inr (Or.inl ⟨c0, c1, c2, p2, rfl, rfl, rfl⟩))))), hE, hV, hC, hCt⟩, hfe⟩
 ·refine (rmsaN l Z a0 hw ws a1 p2 wC va kv (8 : Int32) [(.int (nar .byte (c0.toInt8.toInt32))), (.int (nar .byte (c1.toInt8.toInt32))), (.int (nar .byte (c2.toInt8.toInt32))), (.int (nar .byte (c3.toInt8.toInt32))), (.int 0), (.int 0), (.int 0), (.int 0)] (4 : Int32) 4 h0 n0 Z0 O0 qC q0_ q1_ q2_ q3_ q5_ g1_ g2_ n12 (by decide) (by decide) (by decide) (Nat.le_of_ble_eq_true rfl) (by decide) hcan).mono (fun _ _ h => h) (fun _ _ _ _ _ h => h) ?_
  rintro a U o U' - ⟨v, L, ho, ⟨hv, hN, hK, hA, hE, hV, hC, hCt⟩, hfe⟩
  have e : (4 : Int32) + 1 = 5 := by decide
  rw [e] at hCt
  exact ⟨v, L, ho, ⟨va, kv, _, _, hv, hN, hK, Or.inl rfl, g2_, n12, q4_.keep hK, hA, (Or.inr (Or.inr (Or.inr (Or.inr (Or.inr (Or.inl ⟨c0, c1, c2, c3, p2, rfl, rfl, rfl⟩)))))), hE, hV, hC, hCt⟩, hfe⟩
 ·refine (rmsaN l Z a0 hw ws a1 p2 wC va kv (8 : Int32) [(.int (nar .byte (c0.toInt8.toInt32))), (.int (nar .byte (c1.toInt8.toInt32))), (.int (nar .byte (c2.toInt8.toInt32))), (.int (nar .byte (c3.toInt8.toInt32))), (.int (nar .byte (c4.toInt8.toInt32))), (.int 0), (.int 0), (.int 0)] (5 : Int32) 5 h0 n0 Z0 O0 qC q0_ q1_ q2_ q3_ q5_ g1_ g2_ n12 (by decide) (by decide) (by decide) (Nat.le_of_ble_eq_true rfl) (by decide) hcan).mono (fun _ _ h => h) (fun _ _ _ _ _ h => h) ?_
  rintro a U o U' - ⟨v, L, ho, ⟨hv, hN, hK, hA, hE, hV, hC, hCt⟩, hfe⟩
  have e : (5 : Int32) + 1 = 6 := by decide
  rw [e] at hCt
  exact ⟨v, L, ho, ⟨va, kv, _, _, hv, hN, hK, Or.inl rfl, g2_, n12, q4_.keep hK, hA, (Or.inr (Or.inr (Or.inr (Or.inr (Or.inr (Or.inr (Or.inl ⟨c0, c1, c2, c3, c4, p2, rfl, rfl, rfl⟩))))))), hE, hV, hC, hCt⟩, hfe⟩
 ·refine (rmsaN l Z a0 hw ws a1 p2 wC va kv (8 : Int32) [(.int (nar .byte (c0.toInt8.toInt32))), (.int (nar .byte (c1.toInt8.toInt32))), (.int (nar .byte (c2.toInt8.toInt32))), (.int (nar .byte (c3.toInt8.toInt32))), (.int (nar .byte (c4.toInt8.toInt32))), (.int (nar .byte (c5.toInt8.toInt32))), (.int 0), (.int 0)] (6 : Int32) 6 h0 n0 Z0 O0 qC q0_ q1_ q2_ q3_ q5_ g1_ g2_ n12 (by decide) (by decide) (by decide) (Nat.le_of_ble_eq_true rfl) (by decide) hcan).mono (fun _ _ h => h) (fun _ _ _ _ _ h => h) ?_
  rintro a U o U' - ⟨v, L, ho, ⟨hv, hN, hK, hA, hE, hV, hC, hCt⟩, hfe⟩
  have e : (6 : Int32) + 1 = 7 := by decide
  rw [e] at hCt
  exact ⟨v, L, ho, ⟨va, kv, _, _, hv, hN, hK, Or.inl rfl, g2_, n12, q4_.keep hK, hA, (Or.inr (Or.inr (Or.inr (Or.inr (Or.inr (Or.inr (Or.inr (Or.inl ⟨c0, c1, c2, c3, c4, c5, p2, rfl, rfl, rfl⟩)))))))), hE, hV, hC, hCt⟩, hfe⟩
 ·refine (rmsaN l Z a0 hw ws a1 p2 wC va kv (8 : Int32) [(.int (nar .byte (c0.toInt8.toInt32))), (.int (nar .byte (c1.toInt8.toInt32))), (.int (nar .byte (c2.toInt8.toInt32))), (.int (nar .byte (c3.toInt8.toInt32))), (.int (nar .byte (c4.toInt8.toInt32))), (.int (nar .byte (c5.toInt8.toInt32))), (.int (nar .byte (c6.toInt8.toInt32))), (.int 0)] (7 : Int32) 7 h0 n0 Z0 O0 qC q0_ q1_ q2_ q3_ q5_ g1_ g2_ n12 (by decide) (by decide) (by decide) (Nat.le_of_ble_eq_true rfl) (by decide) hcan).mono (fun _ _ h => h) (fun _ _ _ _ _ h => h) ?_
  rintro a U o U' - ⟨v, L, ho, ⟨hv, hN, hK, hA, hE, hV, hC, hCt⟩, hfe⟩
  have e : (7 : Int32) + 1 = 8 := by decide
  rw [e] at hCt
  exact ⟨v, L, ho, ⟨va, kv, _, _, hv, hN, hK, Or.inl rfl, g2_, n12, q4_.keep hK, hA, (Or.inr (Or.inr (Or.inr (Or.inr (Or.inr (Or.inr (Or.inr (Or.inr (Or.inl ⟨c0, c1, c2, c3, c4, c5, c6, p2, rfl, rfl, rfl⟩))))))))), hE, hV, hC, hCt⟩, hfe⟩
 ·refine (rmsaG8 l Z a0 hw ws a1 p2 wC va kv (.int (nar .byte (c0.toInt8.toInt32))) (.int (nar .byte (c1.toInt8.toInt32))) (.int (nar .byte (c2.toInt8.toInt32))) (.int (nar .byte (c3.toInt8.toInt32))) (.int (nar .byte (c4.toInt8.toInt32))) (.int (nar .byte (c5.toInt8.toInt32))) (.int (nar .byte (c6.toInt8.toInt32))) (.int (nar .byte (c7.toInt8.toInt32))) h0 n0 Z0 O0 qC q0_ q1_ q2_ q3_ q5_ g1_ n12 hcan).mono (fun _ _ h => h) (fun _ _ _ _ _ h => h) ?_
  rintro a U o U' - ⟨v, L, ho, ⟨b, kb, hv, hN, hK, hs, hB, hA, hE, hV, hC, hCt⟩, hfe⟩
  exact ⟨v, L, ho, ⟨b, kb, _, _, hv, hN, (Keep.refl h0 [a1, va]).trans hK (allS (Or.inl (List.mem_of_getElem? (i := 0) rfl)) all0), Or.inr hs, Nat.le_trans Z0 hs, Nat.ne_of_lt (Nat.lt_of_lt_of_le q0_.lt hs), hB, hA, (Or.inr (Or.inr (Or.inr (Or.inr (Or.inr (Or.inr (Or.inr (Or.inr (Or.inr (⟨c0, c1, c2, c3, c4, c5, c6, c7, p2, rfl, rfl, rfl⟩)))))))))), hE, hV, hC, hCt⟩, hfe⟩
 ·exact absurd hlt (Nat.lt_irrefl 9)

theorem d8_0 : decode jdk_68_method_64_code 0 = .ok (.aload_n 0, 1) := by decide +kernel
theorem d8_1 : decode jdk_68_method_64_code 1 = .ok (.getfield 15, 3) := by decide +kernel
theorem d8_4 : decode jdk_68_method_64_code 4 = .ok (.areturn, 1) := by decide +kernel
theorem pn_8 : plainName "java/lang/AbstractStringBuilder" = true := by first | (simp [plainName, overriddenIn]; done) | decide +kernel
theorem ef_8 (m : MethodId) (x0 : Addr) : entryFrame m #[(.ref x0)] 1 = mkF m 0 #[vR x0] [] := by first | (simp [entryFrame, mkF, argsToLocals, Value.category]; done) | rfl
def Q8 (Z : State) (a1 : Addr) (va : Addr) (h0 : Heap) (n0 : Nat) (v : Option Value) (h : Heap) (L : List Loc) : Prop := v = (some (.ref va)) ∧ Fr n0 L ∧ h = h0
set_option maxRecDepth 65536 in
set_option maxHeartbeats 40000000 in
theorem rm8 (l : Launch) (Z : State) (a0 : Array Value) (hw : ∀ d ∈ tables_1, d.before a0 Z = true) (ws : List Jvm.Cond) (a1 : Addr) (va : Addr) (h0 : Heap) (n0 : Nat) (Z0 : n0 ≤ h0.size) (q0_ : Fld Z h0 a1 "java/lang/AbstractStringBuilder" "value" "[B" (.ref va)) :
  MetFree l own_m7 (head1 (Jvm.Cond.code own_m7 jdk_68_method_64_code 1 (some (.array .byte)) :: ws) (own_r 0 0 0 0)) (fun a U => a = #[(.ref a1)] ∧ Z.Warmed39 U.vm ∧ U.heap = h0) (fun _ _ _ _ _ => True) (fun _ U o U' => ∃ v L, o = .returned v ∧ Q8 Z a1 va h0 n0 v U'.heap L ∧ FrameEnd U o U' L (own_r 0 0 0 0).cells (own_r 0 0 0 0).slots) := by
 refine MetFree.of_bodySF (plainFor_of_name pn_8) hisR ?_
 intro p e s m args below meth c s₁ Bd hml0 hP hK
 have H : ∀ (i : Nat) {d : Jvm.Cond}, tables_1[i]? = some d → d.before a0 Z = true := fun i _ h => hw _ (own_w i h)
 obtain ⟨rfl, hZ, hh⟩ := hP
 have hx := Bd.exec
 have hby := Bd.bytes
 have hml : c.maxLocals = 1 := hml0
 have hown0 := findClass_of_methodNamed Bd.named
 have hown : s.vm.findClass "java/lang/AbstractStringBuilder" = some m.cls := hown0
 have hnm := (name_of_methodNamed Bd.named Bd.method).1
 have X0 : Stand p l e (own_r 0 0 0 0) s m #[(.ref a1)] below meth c s₁ [] 0 0 := Stand.of_body Bd
 have e0 : s₁.heap = h0 := by rw [← hh, Bd.state]; rfl
 have N0 := Fr.nil n0
 obtain ⟨S0, hS0⟩ : ∃ z, z = s₁.setTop (entryFrame m #[(.ref a1)] 1) := ⟨_, rfl⟩
 have pre0 : own_Go p e below S0 (s₁.setTop (mkF m 0 #[vR a1] [])) := fun t k => by rw [hS0]; exact castTop (ef_8 m a1) k
 have fin : ∀ t, Steps p.tables e below S0 t → Steps p.tables e below (s₁.setTop (entryFrame m #[(.ref a1)] 1)) t := fun t k => by rw [hS0] at k; exact k
 have pre1 : own_Go p e below S0 (s₁.setTop (mkF m 1 #[vR a1] [(.ref a1)])) := by
  intro t kt
  refine pre0 t ?_
  refine XS.aloadN X0.here hx rfl (hb hby d8_0) rfl rfl ?_
  exact kt
 obtain ⟨T2, X2, e2, st2⟩ := getF X0 hx hZ hown (host := "") (Or.inl (H 22 rfl)) Via.refl e0 q0_ (g := (own_top pre1)) rfl rfl (hb hby d8_1)
 have pre3 : own_Go p e below S0 (T2.setTop (mkF m 4 #[vR a1] [(.ref va)])) := by
  intro t kt
  refine pre1 t ?_
  refine st2 _ ?_
  exact kt
 obtain ⟨fs, hr, hrun, hended, hW, hsame⟩ := X2.leave (v := some (.ref va)) (fun h => by rw [Bd.returns] at h; cases h)
 refine ⟨_, _, fin _ (pre3 _ ?_), hrun, hended, _, _, rfl, ?_, ⟨_, rfl⟩, hW, hsame.mono (by decide) (by decide)⟩
 ·jvm_step X2.here [X2.here.top, hx, (hb hby d8_4), X2.method', Bd.returns, Value.isRef, FieldType.isReference]
  first | (intro acts; rw [hr _ acts rfl rfl rfl]) | rw [hr _ _ rfl rfl rfl]
  exact Steps.refl _
 ·show Q8 Z a1 va h0 n0 _ T2.heap _
  rw [e2]
  exact ⟨rfl, N0, rfl⟩

theorem d10_0 : decode jdk_68_method_6_code 0 = .ok (.aload_n 0, 1) := by decide +kernel
theorem d10_1 : decode jdk_68_method_6_code 1 = .ok (.getfield 79, 3) := by decide +kernel
theorem d10_4 : decode jdk_68_method_6_code 4 = .ok (.ireturn, 1) := by decide +kernel
theorem pn_10 : plainName "java/lang/AbstractStringBuilder" = true := by first | (simp [plainName, overriddenIn]; done) | decide +kernel
theorem ef_10 (m : MethodId) (x0 : Addr) : entryFrame m #[(.ref x0)] 1 = mkF m 0 #[vR x0] [] := by first | (simp [entryFrame, mkF, argsToLocals, Value.category]; done) | rfl
def Q10 (Z : State) (a1 : Addr) (u1 : Int32) (h0 : Heap) (n0 : Nat) (v : Option Value) (h : Heap) (L : List Loc) : Prop := v = (some (.int u1)) ∧ Fr n0 L ∧ h = h0
set_option maxRecDepth 65536 in
set_option maxHeartbeats 40000000 in
theorem rm10 (l : Launch) (Z : State) (a0 : Array Value) (hw : ∀ d ∈ tables_1, d.before a0 Z = true) (ws : List Jvm.Cond) (a1 : Addr) (u1 : Int32) (h0 : Heap) (n0 : Nat) (Z0 : n0 ≤ h0.size) (q0_ : Fld Z h0 a1 "java/lang/AbstractStringBuilder" "count" "I" (.int u1)) :
  MetFree l own_m9 (head1 (Jvm.Cond.code own_m9 jdk_68_method_6_code 1 (some .int) :: ws) (own_r 0 0 0 0)) (fun a U => a = #[(.ref a1)] ∧ Z.Warmed39 U.vm ∧ U.heap = h0) (fun _ _ _ _ _ => True) (fun _ U o U' => ∃ v L, o = .returned v ∧ Q10 Z a1 u1 h0 n0 v U'.heap L ∧ FrameEnd U o U' L (own_r 0 0 0 0).cells (own_r 0 0 0 0).slots) := by
 refine MetFree.of_bodySF (plainFor_of_name pn_10) hisR ?_
 intro p e s m args below meth c s₁ Bd hml0 hP hK
 have H : ∀ (i : Nat) {d : Jvm.Cond}, tables_1[i]? = some d → d.before a0 Z = true := fun i _ h => hw _ (own_w i h)
 obtain ⟨rfl, hZ, hh⟩ := hP
 have hx := Bd.exec
 have hby := Bd.bytes
 have hml : c.maxLocals = 1 := hml0
 have hown0 := findClass_of_methodNamed Bd.named
 have hown : s.vm.findClass "java/lang/AbstractStringBuilder" = some m.cls := hown0
 have hnm := (name_of_methodNamed Bd.named Bd.method).1
 have X0 : Stand p l e (own_r 0 0 0 0) s m #[(.ref a1)] below meth c s₁ [] 0 0 := Stand.of_body Bd
 have e0 : s₁.heap = h0 := by rw [← hh, Bd.state]; rfl
 have N0 := Fr.nil n0
 obtain ⟨S0, hS0⟩ : ∃ z, z = s₁.setTop (entryFrame m #[(.ref a1)] 1) := ⟨_, rfl⟩
 have pre0 : own_Go p e below S0 (s₁.setTop (mkF m 0 #[vR a1] [])) := fun t k => by rw [hS0]; exact castTop (ef_10 m a1) k
 have fin : ∀ t, Steps p.tables e below S0 t → Steps p.tables e below (s₁.setTop (entryFrame m #[(.ref a1)] 1)) t := fun t k => by rw [hS0] at k; exact k
 have pre1 : own_Go p e below S0 (s₁.setTop (mkF m 1 #[vR a1] [(.ref a1)])) := by
  intro t kt
  refine pre0 t ?_
  refine XS.aloadN X0.here hx rfl (hb hby d10_0) rfl rfl ?_
  exact kt
 obtain ⟨T2, X2, e2, st2⟩ := getF X0 hx hZ hown (host := "") (Or.inl (H 55 rfl)) Via.refl e0 q0_ (g := (own_top pre1)) rfl rfl (hb hby d10_1)
 have pre3 : own_Go p e below S0 (T2.setTop (mkF m 4 #[vR a1] [(.int u1)])) := by
  intro t kt
  refine pre1 t ?_
  refine st2 _ ?_
  exact kt
 obtain ⟨fs, hr, hrun, hended, hW, hsame⟩ := X2.leave (v := some (.int u1)) (fun h => by rw [Bd.returns] at h; cases h)
 refine ⟨_, _, fin _ (pre3 _ ?_), hrun, hended, _, _, rfl, ?_, ⟨_, rfl⟩, hW, hsame.mono (by decide) (by decide)⟩
 ·exact retI X2 hx Bd.returns (hb hby d10_4) hr
 ·show Q10 Z a1 u1 h0 n0 _ T2.heap _
  rw [e2]
  exact ⟨rfl, N0, rfl⟩

theorem d9_0 : decode jdk_67_method_93_code 0 = .ok (.aload_n 0, 1) := by decide +kernel
theorem d9_1 : decode jdk_67_method_93_code 1 = .ok (.invokespecial 343, 3) := by decide +kernel
theorem d9_4 : decode jdk_67_method_93_code 4 = .ok (.ireturn, 1) := by decide +kernel
theorem pn_9 : plainName "java/lang/StringBuilder" = true := by first | (simp [plainName, overriddenIn]; done) | decide +kernel
theorem pd_10 : parseMethodDescriptor "()I" = some ⟨[], some .int⟩ := by decide +kernel
theorem ef_9 (m : MethodId) (x0 : Addr) : entryFrame m #[(.ref x0)] 1 = mkF m 0 #[vR x0] [] := by first | (simp [entryFrame, mkF, argsToLocals, Value.category]; done) | rfl
def Q9 (Z : State) (a1 : Addr) (u1 : Int32) (h0 : Heap) (n0 : Nat) (v : Option Value) (h : Heap) (L : List Loc) : Prop := v = (some (.int u1)) ∧ Fr n0 L ∧ h = h0
set_option maxRecDepth 65536 in
set_option maxHeartbeats 40000000 in
theorem rm9 (l : Launch) (Z : State) (a0 : Array Value) (hw : ∀ d ∈ tables_1, d.before a0 Z = true) (ws : List Jvm.Cond) (a1 : Addr) (u1 : Int32) (h0 : Heap) (n0 : Nat) (Z0 : n0 ≤ h0.size) (qE_ : Exa Z h0 a1 "java/lang/StringBuilder") (q0_ : Fld Z h0 a1 "java/lang/AbstractStringBuilder" "count" "I" (.int u1)) :
  MetFree l own_m22 (head1 (Jvm.Cond.code own_m22 jdk_67_method_93_code 1 (some .int) :: ws) (own_r 1 0 0 12)) (fun a U => a = #[(.ref a1)] ∧ Z.Warmed39 U.vm ∧ U.heap = h0) (fun _ _ _ _ _ => True) (fun _ U o U' => ∃ v L, o = .returned v ∧ Q9 Z a1 u1 h0 n0 v U'.heap L ∧ FrameEnd U o U' L (own_r 1 0 0 12).cells (own_r 1 0 0 12).slots) := by
 refine MetFree.of_bodySF (plainFor_of_name pn_9) hisR ?_
 intro p e s m args below meth c s₁ Bd hml0 hP hK
 have H : ∀ (i : Nat) {d : Jvm.Cond}, tables_1[i]? = some d → d.before a0 Z = true := fun i _ h => hw _ (own_w i h)
 obtain ⟨rfl, hZ, hh⟩ := hP
 have hx := Bd.exec
 have hby := Bd.bytes
 have hml : c.maxLocals = 1 := hml0
 have hown0 := findClass_of_methodNamed Bd.named
 have hown : s.vm.findClass "java/lang/StringBuilder" = some m.cls := hown0
 have hnm := (name_of_methodNamed Bd.named Bd.method).1
 have X0 : Stand p l e (own_r 1 0 0 12) s m #[(.ref a1)] below meth c s₁ [] 0 0 := Stand.of_body Bd
 have e0 : s₁.heap = h0 := by rw [← hh, Bd.state]; rfl
 have N0 := Fr.nil n0
 obtain ⟨S0, hS0⟩ : ∃ z, z = s₁.setTop (entryFrame m #[(.ref a1)] 1) := ⟨_, rfl⟩
 have pre0 : own_Go p e below S0 (s₁.setTop (mkF m 0 #[vR a1] [])) := fun t k => by rw [hS0]; exact castTop (ef_9 m a1) k
 have fin : ∀ t, Steps p.tables e below S0 t → Steps p.tables e below (s₁.setTop (entryFrame m #[(.ref a1)] 1)) t := fun t k => by rw [hS0] at k; exact k
 have pre1 : own_Go p e below S0 (s₁.setTop (mkF m 1 #[vR a1] [(.ref a1)])) := by
  intro t kt
  refine pre0 t ?_
  refine XS.aloadN X0.here hx rfl (hb hby d9_0) rfl rfl ?_
  exact kt
 obtain ⟨_, _, ⟨T2, L2, k2, n2⟩, -, X2, ⟨Lc2, hQ2, l2, y2, z2⟩, st2⟩ := superBack X0 hx hZ (y := own_m9) hown (H 52 rfl) (own_same (C := "java/lang/StringBuilder") (w := own_m7) (z := own_m7) rfl (by decide) (H 44 rfl) (H 48 rfl)) (H 48 rfl) (H 53 rfl) (by decide) (backOf (W := 0) (rm10 l Z a0 hw [] a1 u1 h0 n0 Z0 q0_) hZ (H 54 rfl) (H 15 rfl) (by decide) (by decide)) e0 (Ins.self qE_) (g := (own_top pre1)) rfl (by rw [hml]; rfl) (H 54 rfl) (a := a1) (argsL := []) (rest := []) (lenOf pd_10 rfl) rfl (by show 2 * 0 + _ ≤ _; exact Nat.le_of_eq rfl) (hb hby d9_1) (fun _ _ => ⟨rfl, e0, (by decide : 0 + 0 ≤ _), (by decide : 0 + 0 ≤ _)⟩)
 dsimp only [Pt.U, Pt.locs, Pt.cells, Pt.slots] at X2 l2 y2 z2 st2 hQ2
 subst l2 y2 z2
 obtain ⟨rfl, Nq2, eq2⟩ := hQ2
 have N2 := Fr.app N0 Nq2
 have pre3 : own_Go p e below S0 (T2.setTop (mkF m 4 #[vR a1] [(.int u1)])) := by
  intro t kt
  refine pre1 t ?_
  refine st2.trans ?_
  show Steps p.tables e below (T2.setTop (mkF m 4 #[vR a1] [(.int u1)])) _
  exact kt
 obtain ⟨fs, hr, hrun, hended, hW, hsame⟩ := X2.leave (v := some (.int u1)) (fun h => by rw [Bd.returns] at h; cases h)
 refine ⟨_, _, fin _ (pre3 _ ?_), hrun, hended, _, _, rfl, ?_, ⟨_, rfl⟩, hW, hsame.mono (by decide) (by decide)⟩
 ·exact retI X2 hx Bd.returns (hb hby d9_4) hr
 ·show Q9 Z a1 u1 h0 n0 _ T2.heap _
  rw [eq2]
  exact ⟨rfl, N2, rfl⟩

theorem d7_0 : decode jdk_42_method_150_code 0 = .ok (.aload_n 0, 1) := by decide +kernel
theorem d7_1 : decode jdk_42_method_150_code 1 = .ok (.invokespecial 1, 3) := by decide +kernel
theorem d7_4 : decode jdk_42_method_150_code 4 = .ok (.aload_n 1, 1) := by decide +kernel
theorem d7_5 : decode jdk_42_method_150_code 5 = .ok (.invokevirtual 552, 3) := by decide +kernel
theorem d7_8 : decode jdk_42_method_150_code 8 = .ok (.astore_n 3, 1) := by decide +kernel
theorem d7_9 : decode jdk_42_method_150_code 9 = .ok (.aload_n 1, 1) := by decide +kernel
theorem d7_10 : decode jdk_42_method_150_code 10 = .ok (.invokevirtual 549, 3) := by decide +kernel
theorem d7_13 : decode jdk_42_method_150_code 13 = .ok (.istore 4, 2) := by decide +kernel
theorem d7_15 : decode jdk_42_method_150_code 15 = .ok (.aload_n 1, 1) := by decide +kernel
theorem d7_16 : decode jdk_42_method_150_code 16 = .ok (.invokevirtual 1047, 3) := by decide +kernel
theorem d7_19 : decode jdk_42_method_150_code 19 = .ok (.ifCond .eq 22, 3) := by decide +kernel
theorem d7_22 : decode jdk_42_method_150_code 22 = .ok (.aload_n 0, 1) := by decide +kernel
theorem d7_23 : decode jdk_42_method_150_code 23 = .ok (.iconst 0, 1) := by decide +kernel
theorem d7_24 : decode jdk_42_method_150_code 24 = .ok (.putfield 15, 3) := by decide +kernel
theorem d7_27 : decode jdk_42_method_150_code 27 = .ok (.aload_n 0, 1) := by decide +kernel
theorem d7_28 : decode jdk_42_method_150_code 28 = .ok (.aload_n 3, 1) := by decide +kernel
theorem d7_29 : decode jdk_42_method_150_code 29 = .ok (.iconst 0, 1) := by decide +kernel
theorem d7_30 : decode jdk_42_method_150_code 30 = .ok (.iload 4, 2) := by decide +kernel
theorem d7_32 : decode jdk_42_method_150_code 32 = .ok (.invokestatic 54, 3) := by decide +kernel
theorem d7_35 : decode jdk_42_method_150_code 35 = .ok (.putfield 9, 3) := by decide +kernel
theorem d7_38 : decode jdk_42_method_150_code 38 = .ok (.goto 59, 3) := by decide +kernel
theorem d7_97 : decode jdk_42_method_150_code 97 = .ok (.return_, 1) := by decide +kernel
theorem pn_7 : plainName "java/lang/String" = true := by first | (simp [plainName, overriddenIn]; done) | decide +kernel
theorem pd_11 : parseMethodDescriptor "()[B" = some ⟨[], some (.array .byte)⟩ := by decide +kernel
theorem ef_ia (m : MethodId) (x0 : Addr) (x1 : Addr) : entryFrame m #[(.ref x0), (.ref x1), .null] 5 = mkF m 0 #[vR x0, vR x1, .val .null, .unset, .unset] [] := by first | (simp [entryFrame, mkF, argsToLocals, Value.category]; done) | rfl
def Qia (Z : State) (a1 : Addr) (a2 : Addr) (wC : Int32) (va : Addr) (kv : ClassId) (z1 : Int32) (vs : List Value) (cs : List Int32) (h0 : Heap) (n0 : Nat) (v : Option Value) (h : Heap) (L : List Loc) : Prop := ∃ vb : Addr, ∃ kb : ClassId, v = none ∧ Fr n0 L ∧ Keep h0 h [a1] ∧ h0.size ≤ vb ∧ own_StrL Z h a1 vb kb cs
set_option maxRecDepth 65536 in
set_option maxHeartbeats 40000000 in
theorem rmia (l : Launch) (Z : State) (a0 : Array Value) (hw : ∀ d ∈ tables_1, d.before a0 Z = true) (ws : List Jvm.Cond) (a1 : Addr) (a2 : Addr) (wC : Int32) (va : Addr) (kv : ClassId) (z1 : Int32) (vs : List Value) (cs : List Int32) (h0 : Heap) (n0 : Nat) (Z0 : n0 ≤ h0.size) (O0 : Old Z n0 h0) (qC : (own_SC Z wC)) (pE1 : Exa Z h0 a1 "java/lang/String") (pF1 : Fld Z h0 a1 "java/lang/String" "value" "[B" .null) (pF2 : Fld Z h0 a1 "java/lang/String" "coder" "B" (.int 0)) (pg1 : n0 ≤ a1) (q0_ : Exa Z h0 a2 "java/lang/StringBuilder") (q1_ : Fld Z h0 a2 "java/lang/AbstractStringBuilder" "value" "[B" (.ref va)) (q2_ : Fld Z h0 a2 "java/lang/AbstractStringBuilder" "coder" "B" (.int 0)) (q3_ : Fld Z h0 a2 "java/lang/AbstractStringBuilder" "count" "I" (.int (own_len cs))) (q4_ : Exa Z h0 va "[B") (q5_ : Arv Z h0 va kv .byte z1 vs (.int 0)) (hD : (own_Comb z1 vs cs)) (n1_ : a2 ≠ a1) (n2_ : va ≠ a1) :
  MetFree l own_m13 (head1 (Jvm.Cond.code own_m13 jdk_42_method_150_code 5 none :: ws) (own_r 4 1 9 75)) (fun a U => a = #[(.ref a1), (.ref a2), .null] ∧ Z.Warmed39 U.vm ∧ U.heap = h0) (fun _ _ _ _ _ => True) (fun _ U o U' => ∃ v L, o = .returned v ∧ Qia Z a1 a2 wC va kv z1 vs cs h0 n0 v U'.heap L ∧ FrameEnd U o U' L (own_r 4 1 9 75).cells (own_r 4 1 9 75).slots) := by
 refine MetFree.of_bodySF (plainFor_of_name pn_7) hisR ?_
 intro p e s m args below meth c s₁ Bd hml0 hP hK
 have H : ∀ (i : Nat) {d : Jvm.Cond}, tables_1[i]? = some d → d.before a0 Z = true := fun i _ h => hw _ (own_w i h)
 obtain ⟨rfl, hZ, hh⟩ := hP
 have hx := Bd.exec
 have hby := Bd.bytes
 have hml : c.maxLocals = 5 := hml0
 have hown0 := findClass_of_methodNamed Bd.named
 have hown : s.vm.findClass "java/lang/String" = some m.cls := hown0
 have hnm := (name_of_methodNamed Bd.named Bd.method).1
 have X0 : Stand p l e (own_r 4 1 9 75) s m #[(.ref a1), (.ref a2), .null] below meth c s₁ [] 0 0 := Stand.of_body Bd
 have e0 : s₁.heap = h0 := by rw [← hh, Bd.state]; rfl
 have N0 := Fr.nil n0
 obtain ⟨S0, hS0⟩ : ∃ z, z = s₁.setTop (entryFrame m #[(.ref a1), (.ref a2), .null] 5) := ⟨_, rfl⟩
 have pre0 : own_Go p e below S0 (s₁.setTop (mkF m 0 #[vR a1, vR a2, .val .null, .unset, .unset] [])) := fun t k => by rw [hS0]; exact castTop (ef_ia m a1 a2) k
 have fin : ∀ t, Steps p.tables e below S0 t → Steps p.tables e below (s₁.setTop (entryFrame m #[(.ref a1), (.ref a2), .null] 5)) t := fun t k => by rw [hS0] at k; exact k
 have kc0 : Keep h0 h0 [a1] := Keep.refl _ _
 have pre1 : own_Go p e below S0 (s₁.setTop (mkF m 1 #[vR a1, vR a2, .val .null, .unset, .unset] [(.ref a1)])) := by
  intro t kt
  refine pre0 t ?_
  refine XS.aloadN X0.here hx rfl (hb hby d7_0) rfl rfl ?_
  exact kt
 obtain ⟨T2, X2, e2, st2⟩ := initO X0 hx hZ hown (H 40 rfl) (H 18 rfl) (H 19 rfl) e0 (g := (own_top pre1)) rfl (by rw [hml]; rfl) rfl (hb hby d7_1) (by decide) (W := 0) (by show 2 * 0 + _ ≤ _; exact Nat.le_of_eq rfl) (by decide)
 have pre3 : own_Go p e below S0 (T2.setTop (mkF m 5 #[vR a1, vR a2, .val .null, .unset, .unset] [(.ref a2)])) := by
  intro t kt
  refine pre1 t ?_
  refine st2 _ ?_
  refine XS.aloadN X2.here hx rfl (hb hby d7_4) rfl rfl ?_
  exact kt
 obtain ⟨cq4, kq4, qa4, qb4, qc4⟩ := isOf hZ e2 q0_
 obtain ⟨_, _, ⟨T4, L4, k4, n4⟩, -, X4, ⟨Lc4, hQ4, l4, y4, z4⟩, st4⟩ := X2.virtualBack hx (y := own_m7) (z := own_m7) hown (mvT hZ (H 41 rfl)) (mvT hZ (H 42 rfl)) (notFace_of_selects (args := #[]) (mvT hZ (H 44 rfl))) (mvT hZ (H 44 rfl)) (mvT hZ (H 43 rfl)) (by decide) (backOf (W := 0) (rm8 l Z a0 hw [] a2 va h0 n0 Z0 q1_) hZ (H 45 rfl) (H 15 rfl) (by decide) (by decide)) qa4 qc4 (g := (own_top pre3)) rfl (by rw [hml]; rfl) (Steps.refl _) (argsL := []) (rest := []) (lenOf pd_11 rfl) rfl (by show 2 * 0 + _ ≤ _; exact Nat.le_of_eq rfl) (hb hby d7_5) (fun _ _ => ⟨rfl, e2, (by decide : 0 + 0 ≤ _), (by decide : 0 + 0 ≤ _)⟩)
 dsimp only [Pt.U, Pt.locs, Pt.cells, Pt.slots] at X4 l4 y4 z4 st4 hQ4
 subst l4 y4 z4
 obtain ⟨rfl, Nq4, eq4⟩ := hQ4
 have N4 := Fr.app N0 Nq4
 have pre5 : own_Go p e below S0 (T4.setTop (mkF m 10 #[vR a1, vR a2, .val .null, vR va, .unset] [(.ref a2)])) := by
  intro t kt
  refine pre3 t ?_
  refine st4.trans ?_
  show Steps p.tables e below (T4.setTop (mkF m 8 #[vR a1, vR a2, .val .null, .unset, .unset] [(.ref va)])) _
  refine XS.astoreN X4.here hx rfl (hb hby d7_8) rfl rfl (l' := #[vR a1, vR a2, .val .null, vR va, .unset]) rfl ?_
  refine XS.aloadN X4.here hx rfl (hb hby d7_9) rfl rfl ?_
  exact kt
 obtain ⟨cq6, kq6, qa6, qb6, qc6⟩ := isOf hZ eq4 q0_
 obtain ⟨_, _, ⟨T6, L6, k6, n6⟩, -, X6, ⟨Lc6, hQ6, l6, y6, z6⟩, st6⟩ := X4.virtualBack hx (y := own_m9) (z := own_m22) hown (mvT hZ (H 46 rfl)) (mvT hZ (H 47 rfl)) (own_notFace (args := #[]) (z := own_m7) rfl (mvT hZ (H 44 rfl))) (mvT hZ (H 49 rfl)) (mvT hZ (H 50 rfl)) (by decide) (backOf (W := 0) (rm9 l Z a0 hw [] a2 (own_len cs) h0 n0 Z0 q0_ q3_) hZ (H 51 rfl) (H 7 rfl) (by decide) (by decide)) qa6 qc6 (g := (own_top pre5)) rfl (by rw [hml]; rfl) (Steps.refl _) (argsL := []) (rest := []) (lenOf pd_10 rfl) rfl (by show 2 * 0 + _ ≤ _; exact Nat.le_of_eq rfl) (hb hby d7_10) (fun _ _ => ⟨rfl, eq4, (by decide : 0 + 0 ≤ _), (by decide : 0 + 0 ≤ _)⟩)
 dsimp only [Pt.U, Pt.locs, Pt.cells, Pt.slots] at X6 l6 y6 z6 st6 hQ6
 subst l6 y6 z6
 obtain ⟨rfl, Nq6, eq6⟩ := hQ6
 have N6 := Fr.app N4 Nq6
 have pre7 : own_Go p e below S0 (T6.setTop (mkF m 16 #[vR a1, vR a2, .val .null, vR va, vI (own_len cs)] [(.ref a2)])) := by
  intro t kt
  refine pre5 t ?_
  refine st6.trans ?_
  show Steps p.tables e below (T6.setTop (mkF m 13 #[vR a1, vR a2, .val .null, vR va, .unset] [(.int (own_len cs))])) _
  refine XS.istore X6.here hx rfl (hb hby d7_13) rfl (l' := #[vR a1, vR a2, .val .null, vR va, vI (own_len cs)]) rfl ?_
  refine XS.aloadN X6.here hx rfl (hb hby d7_15) rfl rfl ?_
  exact kt
 obtain ⟨cq8, kq8, qa8, qb8, qc8⟩ := isOf hZ eq6 q0_
 obtain ⟨_, _, ⟨T8, L8, k8, n8⟩, -, X8, ⟨Lc8, hQ8, l8, y8, z8⟩, st8⟩ := X6.virtualBack hx (y := own_m8) (z := own_m8) hown (mvT hZ (H 57 rfl)) (mvT hZ (H 58 rfl)) (notFace_of_selects (args := #[]) (mvT hZ (H 60 rfl))) (mvT hZ (H 60 rfl)) (mvT hZ (H 59 rfl)) (by decide) (backOf (W := 0) (rmasl l Z a0 hw [] a2 wC h0 n0 Z0 O0 qC q2_) hZ (H 61 rfl) (H 15 rfl) (by decide) (by decide)) qa8 qc8 (g := (own_top pre7)) rfl (by rw [hml]; rfl) (Steps.refl _) (argsL := []) (rest := []) (lenOf pd_7 rfl) rfl (by show 2 * 0 + _ ≤ _; exact Nat.le_of_eq rfl) (hb hby d7_16) (fun _ _ => ⟨rfl, eq6, (by decide : 0 + 0 ≤ _), (by decide : 0 + 0 ≤ _)⟩)
 dsimp only [Pt.U, Pt.locs, Pt.cells, Pt.slots] at X8 l8 y8 z8 st8 hQ8
 subst l8 y8 z8
 obtain ⟨rfl, Nq8, eq8⟩ := hQ8
 have N8 := Fr.app N6 Nq8
 have pre9 : own_Go p e below S0 (T8.setTop (mkF m 24 #[vR a1, vR a2, .val .null, vR va, vI (own_len cs)] [(.int 0), (.ref a1)])) := by
  intro t kt
  refine pre7 t ?_
  refine st8.trans ?_
  show Steps p.tables e below (T8.setTop (mkF m 19 #[vR a1, vR a2, .val .null, vR va, vI (own_len cs)] [(.int 1)])) _
  refine XS.ifNo X8.here hx rfl (hb hby d7_19) rfl ((if0 _ _).trans (feq (by decide : ¬ ((1 : Int32) = (0 : Int32)))).1) ?_
  refine XS.aloadN X8.here hx rfl (hb hby d7_22) rfl rfl ?_
  refine XS.iconst X8.here hx rfl (hb hby d7_23) ?_
  exact kt
 obtain ⟨T10, h10, X10, e10, W10, st10⟩ := putFN X8 hx hZ hown (H 62 rfl) Via.refl eq8 pF2 pE1 (Or.inr ⟨(H 63 rfl), rfl, hnm⟩) (H 32 rfl) (ty := .byte) (v' := (.int 0)) (by decide) rfl (by decide) (g := (own_top pre9)) rfl rfl (hb hby d7_24)
 have N10 := Fr.snoc X10 N8 pg1
 have zs11 : n0 ≤ h10.size := Nat.le_trans Z0 (Keep.of_wr W10).1
 have kc12 : Keep h0 h10 [a1] := kc0.wr W10 (Or.inl (List.mem_of_getElem? (i := 0) rfl))
 have fw10 : Fld Z h10 a1 "java/lang/String" "coder" "B" (.int 0) := pF2.same W10
 have pre13 : own_Go p e below S0 (T10.setTop (mkF m 32 #[vR a1, vR a2, .val .null, vR va, vI (own_len cs)] [(.int (own_len cs)), (.int 0), (.ref va), (.ref a1)])) := by
  intro t kt
  refine pre9 t ?_
  refine st10 _ ?_
  refine XS.aloadN X10.here hx rfl (hb hby d7_27) rfl rfl ?_
  refine XS.aloadN X10.here hx rfl (hb hby d7_28) rfl rfl ?_
  refine XS.iconst X10.here hx rfl (hb hby d7_29) ?_
  refine XS.iload X10.here hx rfl (hb hby d7_30) rfl ?_
  exact kt
 have f14 : Exa Z h10 va "[B" := (q4_.wr W10)
 have f15 : Arv Z h10 va kv .byte z1 vs (.int 0) := (q5_.other W10 n2_)
 obtain ⟨_, _, ⟨T16, L16, k16, n16⟩, -, X16, ⟨Lc16, hQ16, l16, y16, z16⟩, st16⟩ := Jvm.LawKit.callS X10 hx (y := own_m28) hown (mvT hZ (H 64 rfl)) (mvT hZ (H 65 rfl)) (mvT hZ (H 66 rfl)) (mvT hZ (H 67 rfl)) (by decide) (backOf (W := 1) (rmcorG l Z a0 hw [] va kv z1 vs cs h10 n0 zs11 f14 f15 hD) hZ (H 67 rfl) (H 66 rfl) (by decide) (by decide)) (g := (own_top pre13)) rfl (by rw [hml]; rfl) (argsL := [(.ref va), (.int 0), (.int (own_len cs))]) (rest := [(.ref a1)]) (lenOf pd_3 rfl) rfl (by show 2 * 0 + _ ≤ _; exact Nat.le_of_eq rfl) (hb hby d7_32) (fun _ _ => ⟨rfl, e10, (by decide : 0 + 1 ≤ _), (by decide : 0 + 9 ≤ _)⟩)
 dsimp only [Pt.U, Pt.locs, Pt.cells, Pt.slots] at X16 l16 y16 z16 st16 hQ16
 subst l16 y16 z16
 obtain ⟨b17, kb18, rfl, Nq16, K16, g19, g20⟩ := hQ16
 have N16 := Fr.app N10 Nq16
 have f21 : Exa Z h10 a1 "java/lang/String" := (pE1.wr W10)
 have ne22 : a1 ≠ b17 := Nat.ne_of_lt (Nat.lt_of_lt_of_le f21.lt g19)
 have f23 : Exa Z h10 a2 "java/lang/StringBuilder" := (q0_.wr W10)
 have ne24 : a2 ≠ b17 := Nat.ne_of_lt (Nat.lt_of_lt_of_le f23.lt g19)
 have ne25 : va ≠ b17 := Nat.ne_of_lt (Nat.lt_of_lt_of_le f14.lt g19)
 have ge26 : n0 ≤ b17 := Nat.le_trans zs11 g19
 have sz27 : h0.size ≤ b17 := Nat.le_trans kc12.1 g19
 have zs28 : n0 ≤ T16.heap.size := Nat.le_trans zs11 K16.1
 have kc29 : Keep h0 T16.heap [a1] := kc12.trans K16 all0
 have pre30 : own_Go p e below S0 (T16.setTop (mkF m 35 #[vR a1, vR a2, .val .null, vR va, vI (own_len cs)] [(.ref b17), (.ref a1)])) := by
  intro t kt
  refine pre13 t ?_
  refine st16 _ ?_
  show Steps p.tables e below (T16.setTop (mkF m 35 #[vR a1, vR a2, .val .null, vR va, vI (own_len cs)] [(.ref b17), (.ref a1)])) _
  exact kt
 have f31 : Fld Z T16.heap a1 "java/lang/String" "value" "[B" .null := ((pF1.other W10 (Or.inr (slot_ne (Or.inr (H 78 rfl)) (Or.inr (H 63 rfl)) (by decide) (t := (.array .byte)) (t' := .byte) (by decide) (by decide)))).keep K16 nin0)
 have f32 : Exa Z T16.heap a1 "java/lang/String" := (f21.keep K16)
 obtain ⟨T33, h33, X33, e33, W33, st33⟩ := putF X16 hx hZ hown (host := "") (Or.inl (H 77 rfl)) Via.refl rfl f31 f32 (Or.inr ⟨(H 78 rfl), rfl, hnm⟩) (H 32 rfl) (ty := (.array .byte)) (by decide) rfl rfl (g := (own_top pre30)) rfl rfl (hb hby d7_35)
 have N33 := Fr.snoc X33 N16 pg1
 have zs34 : n0 ≤ h33.size := Nat.le_trans zs28 (Keep.of_wr W33).1
 have kc35 : Keep h0 h33 [a1] := kc29.wr W33 (Or.inl (List.mem_of_getElem? (i := 0) rfl))
 have fw33 : Fld Z h33 a1 "java/lang/String" "value" "[B" (.ref b17) := f31.same W33
 have pre36 : own_Go p e below S0 (T33.setTop (mkF m 97 #[vR a1, vR a2, .val .null, vR va, vI (own_len cs)] [])) := by
  intro t kt
  refine pre30 t ?_
  refine st33 _ ?_
  refine XS.goto X33.here hx rfl (pc0 := 38) (pc' := 97) rfl (hb hby d7_38) (by decide) (by decide) ?_
  exact kt
 have f37 : Exa Z h33 a1 "java/lang/String" := (f32.wr W33)
 have f38 : Fld Z h33 a1 "java/lang/String" "coder" "B" (.int 0) := ((fw10.keep K16 nin0).other W33 (Or.inr (slot_ne (Or.inr (H 63 rfl)) (Or.inr (H 78 rfl)) (by decide) (t := .byte) (t' := (.array .byte)) (by decide) (by decide))))
 have f39 : Arv Z h33 b17 kb18 .byte (own_len cs) (cs.map own_lb) (.int 0) := (g20.other W33 (Ne.symm ne22))
 obtain ⟨fs, hr, hrun, hended, hW, hsame⟩ := X33.leave (v := none) (fun _ => rfl)
 refine ⟨_, _, fin _ (pre36 _ ?_), hrun, hended, _, _, rfl, ?_, ⟨_, rfl⟩, hW, hsame.mono (by decide) (by decide)⟩
 ·exact X33.returnOut hx Bd.returns (hb hby d7_97) hr
 ·show Qia Z a1 a2 wC va kv z1 vs cs h0 n0 _ T33.heap _
  rw [e33]
  exact ⟨b17, kb18, rfl, N33, kc35, sz27, ⟨f37, fw33, f38, f39⟩⟩

theorem d6_0 : decode jdk_42_method_53_code 0 = .ok (.aload_n 0, 1) := by decide +kernel
theorem d6_1 : decode jdk_42_method_53_code 1 = .ok (.aload_n 1, 1) := by decide +kernel
theorem d6_2 : decode jdk_42_method_53_code 2 = .ok (.aconst_null, 1) := by decide +kernel
theorem d6_3 : decode jdk_42_method_53_code 3 = .ok (.invokespecial 489, 3) := by decide +kernel
theorem d6_6 : decode jdk_42_method_53_code 6 = .ok (.return_, 1) := by decide +kernel
theorem pn_6 : plainName "java/lang/String" = true := by first | (simp [plainName, overriddenIn]; done) | decide +kernel
theorem pd_12 : parseMethodDescriptor "(Ljava/lang/AbstractStringBuilder;Ljava/lang/Void;)V" = some ⟨[(.object "java/lang/AbstractStringBuilder"), (.object "java/lang/Void")], none⟩ := by decide +kernel
theorem ef_ib (m : MethodId) (x0 : Addr) (x1 : Addr) : entryFrame m #[(.ref x0), (.ref x1)] 2 = mkF m 0 #[vR x0, vR x1] [] := by first | (simp [entryFrame, mkF, argsToLocals, Value.category]; done) | rfl
def Qib (Z : State) (a1 : Addr) (a2 : Addr) (wC : Int32) (va : Addr) (kv : ClassId) (z1 : Int32) (vs : List Value) (cs : List Int32) (h0 : Heap) (n0 : Nat) (v : Option Value) (h : Heap) (L : List Loc) : Prop := ∃ vb : Addr, ∃ kb : ClassId, v = none ∧ Fr n0 L ∧ Keep h0 h [a1] ∧ h0.size ≤ vb ∧ own_StrL Z h a1 vb kb cs
set_option maxRecDepth 65536 in
set_option maxHeartbeats 40000000 in
theorem rmib (l : Launch) (Z : State) (a0 : Array Value) (hw : ∀ d ∈ tables_1, d.before a0 Z = true) (ws : List Jvm.Cond) (a1 : Addr) (a2 : Addr) (wC : Int32) (va : Addr) (kv : ClassId) (z1 : Int32) (vs : List Value) (cs : List Int32) (h0 : Heap) (n0 : Nat) (Z0 : n0 ≤ h0.size) (O0 : Old Z n0 h0) (qC : (own_SC Z wC)) (pE1 : Exa Z h0 a1 "java/lang/String") (pF1 : Fld Z h0 a1 "java/lang/String" "value" "[B" .null) (pF2 : Fld Z h0 a1 "java/lang/String" "coder" "B" (.int 0)) (pg1 : n0 ≤ a1) (q0_ : Exa Z h0 a2 "java/lang/StringBuilder") (q1_ : Fld Z h0 a2 "java/lang/AbstractStringBuilder" "value" "[B" (.ref va)) (q2_ : Fld Z h0 a2 "java/lang/AbstractStringBuilder" "coder" "B" (.int 0)) (q3_ : Fld Z h0 a2 "java/lang/AbstractStringBuilder" "count" "I" (.int (own_len cs))) (q4_ : Exa Z h0 va "[B") (q5_ : Arv Z h0 va kv .byte z1 vs (.int 0)) (hD : (own_Comb z1 vs cs)) (n1_ : a2 ≠ a1) (n2_ : va ≠ a1) :
  MetFree l own_m14 (head1 (Jvm.Cond.code own_m14 jdk_42_method_53_code 2 none :: ws) (own_r 5 1 9 91)) (fun a U => a = #[(.ref a1), (.ref a2)] ∧ Z.Warmed39 U.vm ∧ U.heap = h0) (fun _ _ _ _ _ => True) (fun _ U o U' => ∃ v L, o = .returned v ∧ Qib Z a1 a2 wC va kv z1 vs cs h0 n0 v U'.heap L ∧ FrameEnd U o U' L (own_r 5 1 9 91).cells (own_r 5 1 9 91).slots) := by
 refine MetFree.of_bodySF (plainFor_of_name pn_6) hisR ?_
 intro p e s m args below meth c s₁ Bd hml0 hP hK
 have H : ∀ (i : Nat) {d : Jvm.Cond}, tables_1[i]? = some d → d.before a0 Z = true := fun i _ h => hw _ (own_w i h)
 obtain ⟨rfl, hZ, hh⟩ := hP
 have hx := Bd.exec
 have hby := Bd.bytes
 have hml : c.maxLocals = 2 := hml0
 have hown0 := findClass_of_methodNamed Bd.named
 have hown : s.vm.findClass "java/lang/String" = some m.cls := hown0
 have hnm := (name_of_methodNamed Bd.named Bd.method).1
 have X0 : Stand p l e (own_r 5 1 9 91) s m #[(.ref a1), (.ref a2)] below meth c s₁ [] 0 0 := Stand.of_body Bd
 have e0 : s₁.heap = h0 := by rw [← hh, Bd.state]; rfl
 have N0 := Fr.nil n0
 obtain ⟨S0, hS0⟩ : ∃ z, z = s₁.setTop (entryFrame m #[(.ref a1), (.ref a2)] 2) := ⟨_, rfl⟩
 have pre0 : own_Go p e below S0 (s₁.setTop (mkF m 0 #[vR a1, vR a2] [])) := fun t k => by rw [hS0]; exact castTop (ef_ib m a1 a2) k
 have fin : ∀ t, Steps p.tables e below S0 t → Steps p.tables e below (s₁.setTop (entryFrame m #[(.ref a1), (.ref a2)] 2)) t := fun t k => by rw [hS0] at k; exact k
 have kc0 : Keep h0 h0 [a1] := Keep.refl _ _
 have pre1 : own_Go p e below S0 (s₁.setTop (mkF m 3 #[vR a1, vR a2] [.null, (.ref a2), (.ref a1)])) := by
  intro t kt
  refine pre0 t ?_
  refine XS.aloadN X0.here hx rfl (hb hby d6_0) rfl rfl ?_
  refine XS.aloadN X0.here hx rfl (hb hby d6_1) rfl rfl ?_
  refine XS.aconstNull X0.here hx rfl (hb hby d6_2) ?_
  exact kt
 obtain ⟨_, _, ⟨T2, L2, k2, n2⟩, -, X2, ⟨Lc2, hQ2, l2, y2, z2⟩, st2⟩ := X0.specialBack hx (y := own_m13) rfl hown (mvT hZ (H 37 rfl)) (mvT hZ (H 38 rfl)) (mvT hZ (H 39 rfl)) (by decide) (backOf (W := 0) (rmia l Z a0 hw [] a1 a2 wC va kv z1 vs cs h0 n0 Z0 O0 qC pE1 pF1 pF2 pg1 q0_ q1_ q2_ q3_ q4_ q5_ hD n1_ n2_) hZ (H 39 rfl) (H 21 rfl) (by decide) (by decide)) (g := (own_top pre1)) rfl (by rw [hml]; rfl) (Steps.refl _) (a := a1) (argsL := [(.ref a2), .null]) (rest := []) (lenOf pd_12 rfl) rfl (by show 2 * 0 + _ ≤ _; exact Nat.le_of_eq rfl) (hb hby d6_3) (fun _ _ => ⟨rfl, e0, (by decide : 0 + 1 ≤ _), (by decide : 0 + 9 ≤ _)⟩)
 dsimp only [Pt.U, Pt.locs, Pt.cells, Pt.slots] at X2 l2 y2 z2 st2 hQ2
 subst l2 y2 z2
 obtain ⟨vb3, kb4, rfl, Nq2, K2, g5, g6⟩ := hQ2
 have N2 := Fr.app N0 Nq2
 have ne7 : a1 ≠ vb3 := Nat.ne_of_lt (Nat.lt_of_lt_of_le pE1.lt g5)
 have ne8 : a2 ≠ vb3 := Nat.ne_of_lt (Nat.lt_of_lt_of_le q0_.lt g5)
 have ne9 : va ≠ vb3 := Nat.ne_of_lt (Nat.lt_of_lt_of_le q4_.lt g5)
 have ge10 : n0 ≤ vb3 := Nat.le_trans Z0 g5
 have sz11 : h0.size ≤ vb3 := Nat.le_trans kc0.1 g5
 have zs12 : n0 ≤ T2.heap.size := Nat.le_trans Z0 K2.1
 have kc13 : Keep h0 T2.heap [a1] := kc0.trans K2 (allS (Or.inl (List.mem_of_getElem? (i := 0) rfl)) all0)
 have pre14 : own_Go p e below S0 (T2.setTop (mkF m 6 #[vR a1, vR a2] [])) := by
  intro t kt
  refine pre1 t ?_
  refine st2.trans ?_
  show Steps p.tables e below (T2.setTop (mkF m 6 #[vR a1, vR a2] [])) _
  exact kt
 obtain ⟨fs, hr, hrun, hended, hW, hsame⟩ := X2.leave (v := none) (fun _ => rfl)
 refine ⟨_, _, fin _ (pre14 _ ?_), hrun, hended, _, _, rfl, ?_, ⟨_, rfl⟩, hW, hsame.mono (by decide) (by decide)⟩
 ·exact X2.returnOut hx Bd.returns (hb hby d6_6) hr
 ·show Qib Z a1 a2 wC va kv z1 vs cs h0 n0 _ T2.heap _
  exact ⟨vb3, kb4, rfl, N2, kc13, sz11, g6⟩

theorem d5_0 : decode jdk_67_method_42_code 0 = .ok (.new 18, 3) := by decide +kernel
theorem d5_3 : decode jdk_67_method_42_code 3 = .ok (.dup, 1) := by decide +kernel
theorem d5_4 : decode jdk_67_method_42_code 4 = .ok (.aload_n 0, 1) := by decide +kernel
theorem d5_5 : decode jdk_67_method_42_code 5 = .ok (.invokespecial 137, 3) := by decide +kernel
theorem d5_8 : decode jdk_67_method_42_code 8 = .ok (.areturn, 1) := by decide +kernel
theorem pn_5 : plainName "java/lang/StringBuilder" = true := by first | (simp [plainName, overriddenIn]; done) | decide +kernel
theorem pd_13 : parseMethodDescriptor "(Ljava/lang/StringBuilder;)V" = some ⟨[(.object "java/lang/StringBuilder")], none⟩ := by decide +kernel
theorem ef_ts (m : MethodId) (x0 : Addr) : entryFrame m #[(.ref x0)] 1 = mkF m 0 #[vR x0] [] := by first | (simp [entryFrame, mkF, argsToLocals, Value.category]; done) | rfl
def Qts (Z : State) (a1 : Addr) (wC : Int32) (va : Addr) (kv : ClassId) (z1 : Int32) (vs : List Value) (cs : List Int32) (h0 : Heap) (n0 : Nat) (v : Option Value) (h : Heap) (L : List Loc) : Prop := ∃ b : Addr, ∃ vb : Addr, ∃ kb : ClassId, v = (some (.ref b)) ∧ Fr n0 L ∧ Keep h0 h [] ∧ h0.size ≤ b ∧ h0.size ≤ vb ∧ own_StrL Z h b vb kb cs
set_option maxRecDepth 65536 in
set_option maxHeartbeats 40000000 in
theorem rmts (l : Launch) (Z : State) (a0 : Array Value) (hw : ∀ d ∈ tables_1, d.before a0 Z = true) (ws : List Jvm.Cond) (a1 : Addr) (wC : Int32) (va : Addr) (kv : ClassId) (z1 : Int32) (vs : List Value) (cs : List Int32) (h0 : Heap) (n0 : Nat) (Z0 : n0 ≤ h0.size) (O0 : Old Z n0 h0) (qC : (own_SC Z wC)) (q0_ : Exa Z h0 a1 "java/lang/StringBuilder") (q1_ : Fld Z h0 a1 "java/lang/AbstractStringBuilder" "value" "[B" (.ref va)) (q2_ : Fld Z h0 a1 "java/lang/AbstractStringBuilder" "coder" "B" (.int 0)) (q3_ : Fld Z h0 a1 "java/lang/AbstractStringBuilder" "count" "I" (.int (own_len cs))) (q4_ : Exa Z h0 va "[B") (q5_ : Arv Z h0 va kv .byte z1 vs (.int 0)) (hD : (own_Comb z1 vs cs)) :
  MetFree l own_m23 (head1 (Jvm.Cond.code own_m23 jdk_67_method_42_code 1 (some (.object "java/lang/String")) :: ws) (own_r 6 2 13 105)) (fun a U => a = #[(.ref a1)] ∧ Z.Warmed39 U.vm ∧ U.heap = h0) (fun _ _ _ _ _ => True) (fun _ U o U' => ∃ v L, o = .returned v ∧ Qts Z a1 wC va kv z1 vs cs h0 n0 v U'.heap L ∧ FrameEnd U o U' L (own_r 6 2 13 105).cells (own_r 6 2 13 105).slots) := by
 refine MetFree.of_bodySF (plainFor_of_name pn_5) hisR ?_
 intro p e s m args below meth c s₁ Bd hml0 hP hK
 have H : ∀ (i : Nat) {d : Jvm.Cond}, tables_1[i]? = some d → d.before a0 Z = true := fun i _ h => hw _ (own_w i h)
 obtain ⟨rfl, hZ, hh⟩ := hP
 have hx := Bd.exec
 have hby := Bd.bytes
 have hml : c.maxLocals = 1 := hml0
 have hown0 := findClass_of_methodNamed Bd.named
 have hown : s.vm.findClass "java/lang/StringBuilder" = some m.cls := hown0
 have hnm := (name_of_methodNamed Bd.named Bd.method).1
 have X0 : Stand p l e (own_r 6 2 13 105) s m #[(.ref a1)] below meth c s₁ [] 0 0 := Stand.of_body Bd
 have e0 : s₁.heap = h0 := by rw [← hh, Bd.state]; rfl
 have N0 := Fr.nil n0
 obtain ⟨S0, hS0⟩ : ∃ z, z = s₁.setTop (entryFrame m #[(.ref a1)] 1) := ⟨_, rfl⟩
 have pre0 : own_Go p e below S0 (s₁.setTop (mkF m 0 #[vR a1] [])) := fun t k => by rw [hS0]; exact castTop (ef_ts m a1) k
 have fin : ∀ t, Steps p.tables e below S0 t → Steps p.tables e below (s₁.setTop (entryFrame m #[(.ref a1)] 1)) t := fun t k => by rw [hS0] at k; exact k
 have kc0 : Keep h0 h0 [] := Keep.refl _ _
 obtain ⟨T1, h1, X1, e1, E1, A1, D1, -, st1⟩ := newO X0 hx hZ hown (H 31 rfl) (H 32 rfl) (H 21 rfl) e0 (g := (own_top pre0)) rfl (hb hby d5_0) (by decide) (by decide)
 obtain ⟨b1, g1⟩ : ∃ z, z = h0.size := ⟨_, rfl⟩
 rw [← g1] at A1 D1 st1
 have ne2 : a1 ≠ b1 := Nat.ne_of_lt (Nat.lt_of_lt_of_le q0_.lt (Nat.le_of_eq g1.symm))
 have ne3 : va ≠ b1 := Nat.ne_of_lt (Nat.lt_of_lt_of_le q4_.lt (Nat.le_of_eq g1.symm))
 have ge4 : n0 ≤ b1 := Nat.le_trans Z0 (Nat.le_of_eq g1.symm)
 have sz5 : h0.size ≤ b1 := Nat.le_trans kc0.1 (Nat.le_of_eq g1.symm)
 have zs6 : n0 ≤ h1.size := Nat.le_trans Z0 E1.1
 have kc7 : Keep h0 h1 [] := kc0.ext E1
 have fd8 : Fld Z h1 b1 "java/lang/String" "coder" "B" (.int 0) := D1 (Or.inr (H 63 rfl)) (ty := .byte) (by decide)
 have fd9 : Fld Z h1 b1 "java/lang/String" "value" "[B" .null := D1 (Or.inr (H 78 rfl)) (ty := (.array .byte)) (by decide)
 have pre10 : own_Go p e below S0 (T1.setTop (mkF m 5 #[vR a1] [(.ref a1), (.ref b1), (.ref b1)])) := by
  intro t kt
  refine pre0 t ?_
  refine st1 _ ?_
  refine XS.dup X1.here hx rfl (hb hby d5_3) rfl rfl ?_
  refine XS.aloadN X1.here hx rfl (hb hby d5_4) rfl rfl ?_
  exact kt
 have f11 : Old Z n0 h1 := (O0.ext E1)
 have f12 : Exa Z h1 a1 "java/lang/StringBuilder" := (q0_.ext E1)
 have f13 : Fld Z h1 a1 "java/lang/AbstractStringBuilder" "value" "[B" (.ref va) := (q1_.ext E1)
 have f14 : Fld Z h1 a1 "java/lang/AbstractStringBuilder" "coder" "B" (.int 0) := (q2_.ext E1)
 have f15 : Fld Z h1 a1 "java/lang/AbstractStringBuilder" "count" "I" (.int (own_len cs)) := (q3_.ext E1)
 have f16 : Exa Z h1 va "[B" := (q4_.ext E1)
 have f17 : Arv Z h1 va kv .byte z1 vs (.int 0) := (q5_.ext E1)
 obtain ⟨_, _, ⟨T18, L18, k18, n18⟩, -, X18, ⟨Lc18, hQ18, l18, y18, z18⟩, st18⟩ := X1.specialBack hx (y := own_m14) rfl hown (mvT hZ (H 33 rfl)) (mvT hZ (H 34 rfl)) (mvT hZ (H 36 rfl)) (by decide) (backOf (W := 1) (rmib l Z a0 hw [] b1 a1 wC va kv z1 vs cs h1 n0 zs6 f11 qC A1 fd9 fd8 ge4 f12 f13 f14 f15 f16 f17 hD ne2 ne3) hZ (H 36 rfl) (H 21 rfl) (by decide) (by decide)) (g := (own_top pre10)) rfl (by rw [hml]; rfl) (Steps.refl _) (a := b1) (argsL := [(.ref a1)]) (rest := [(.ref b1)]) (lenOf pd_13 rfl) rfl (by show 2 * 0 + _ ≤ _; exact Nat.le_of_eq rfl) (hb hby d5_5) (fun _ _ => ⟨rfl, e1, (by decide : 1 + 1 ≤ _), (by decide : 4 + 9 ≤ _)⟩)
 dsimp only [Pt.U, Pt.locs, Pt.cells, Pt.slots] at X18 l18 y18 z18 st18 hQ18
 subst l18 y18 z18
 obtain ⟨vb19, kb20, rfl, Nq18, K18, g21, g22⟩ := hQ18
 have N18 := Fr.app N0 Nq18
 have ne23 : a1 ≠ vb19 := Nat.ne_of_lt (Nat.lt_of_lt_of_le f12.lt g21)
 have ne24 : va ≠ vb19 := Nat.ne_of_lt (Nat.lt_of_lt_of_le f16.lt g21)
 have ne25 : b1 ≠ vb19 := Nat.ne_of_lt (Nat.lt_of_lt_of_le A1.lt g21)
 have ge26 : n0 ≤ vb19 := Nat.le_trans zs6 g21
 have sz27 : h0.size ≤ vb19 := Nat.le_trans kc7.1 g21
 have zs28 : n0 ≤ T18.heap.size := Nat.le_trans zs6 K18.1
 have kc29 : Keep h0 T18.heap [] := kc7.trans K18 (allS (Or.inr sz5) all0)
 have pre30 : own_Go p e below S0 (T18.setTop (mkF m 8 #[vR a1] [(.ref b1)])) := by
  intro t kt
  refine pre10 t ?_
  refine st18.trans ?_
  show Steps p.tables e below (T18.setTop (mkF m 8 #[vR a1] [(.ref b1)])) _
  exact kt
 obtain ⟨fs, hr, hrun, hended, hW, hsame⟩ := X18.leave (v := some (.ref b1)) (fun h => by rw [Bd.returns] at h; cases h)
 refine ⟨_, _, fin _ (pre30 _ ?_), hrun, hended, _, _, rfl, ?_, ⟨_, rfl⟩, hW, hsame.mono (by decide) (by decide)⟩
 ·jvm_step X18.here [X18.here.top, hx, (hb hby d5_8), X18.method', Bd.returns, Value.isRef, FieldType.isReference]
  first | (intro acts; rw [hr _ acts rfl rfl rfl]) | rw [hr _ _ rfl rfl rfl]
  exact Steps.refl _
 ·show Qts Z a1 wC va kv z1 vs cs h0 n0 _ T18.heap _
  exact ⟨b1, vb19, kb20, rfl, N18, kc29, sz5, sz27, g22⟩

theorem d14_0 : decode jdk_42_method_152_code 0 = .ok (.getstatic 38, 3) := by decide +kernel
theorem d14_3 : decode jdk_42_method_152_code 3 = .ok (.ifCond .eq 10, 3) := by decide +kernel
theorem d14_6 : decode jdk_42_method_152_code 6 = .ok (.aload_n 0, 1) := by decide +kernel
theorem d14_7 : decode jdk_42_method_152_code 7 = .ok (.getfield 15, 3) := by decide +kernel
theorem d14_10 : decode jdk_42_method_152_code 10 = .ok (.goto 4, 3) := by decide +kernel
theorem d14_14 : decode jdk_42_method_152_code 14 = .ok (.ireturn, 1) := by decide +kernel
theorem pn_14 : plainName "java/lang/String" = true := by first | (simp [plainName, overriddenIn]; done) | decide +kernel
theorem ef_coder0 (m : MethodId) (x0 : Addr) : entryFrame m #[(.ref x0)] 1 = mkF m 0 #[vR x0] [] := by first | (simp [entryFrame, mkF, argsToLocals, Value.category]; done) | rfl
def Qcoder0 (Z : State) (a1 : Addr) (wC : Int32) (h0 : Heap) (n0 : Nat) (v : Option Value) (h : Heap) (L : List Loc) : Prop := v = (some (.int 0)) ∧ Fr n0 L ∧ h = h0
set_option maxRecDepth 65536 in
set_option maxHeartbeats 40000000 in
theorem rmcoder0 (l : Launch) (Z : State) (a0 : Array Value) (hw : ∀ d ∈ tables_1, d.before a0 Z = true) (ws : List Jvm.Cond) (a1 : Addr) (wC : Int32) (h0 : Heap) (n0 : Nat) (Z0 : n0 ≤ h0.size) (O0 : Old Z n0 h0) (qC : (own_SC Z wC)) (FC : Fld Z h0 a1 "java/lang/String" "coder" "B" (.int 0)) :
  MetFree l own_m17 (head1 (Jvm.Cond.code own_m17 jdk_42_method_152_code 1 (some .byte) :: ws) (own_r 0 0 0 0)) (fun a U => a = #[(.ref a1)] ∧ Z.Warmed39 U.vm ∧ U.heap = h0) (fun _ _ _ _ _ => True) (fun _ U o U' => ∃ v L, o = .returned v ∧ Qcoder0 Z a1 wC h0 n0 v U'.heap L ∧ FrameEnd U o U' L (own_r 0 0 0 0).cells (own_r 0 0 0 0).slots) := by
 refine MetFree.of_bodySF (plainFor_of_name pn_14) hisR ?_
 intro p e s m args below meth c s₁ Bd hml0 hP hK
 have H : ∀ (i : Nat) {d : Jvm.Cond}, tables_1[i]? = some d → d.before a0 Z = true := fun i _ h => hw _ (own_w i h)
 obtain ⟨rfl, hZ, hh⟩ := hP
 have hx := Bd.exec
 have hby := Bd.bytes
 have hml : c.maxLocals = 1 := hml0
 have hown0 := findClass_of_methodNamed Bd.named
 have hown : s.vm.findClass "java/lang/String" = some m.cls := hown0
 have hnm := (name_of_methodNamed Bd.named Bd.method).1
 have X0 : Stand p l e (own_r 0 0 0 0) s m #[(.ref a1)] below meth c s₁ [] 0 0 := Stand.of_body Bd
 have e0 : s₁.heap = h0 := by rw [← hh, Bd.state]; rfl
 have N0 := Fr.nil n0
 obtain ⟨S0, hS0⟩ : ∃ z, z = s₁.setTop (entryFrame m #[(.ref a1)] 1) := ⟨_, rfl⟩
 have pre0 : own_Go p e below S0 (s₁.setTop (mkF m 0 #[vR a1] [])) := fun t k => by rw [hS0]; exact castTop (ef_coder0 m a1) k
 have fin : ∀ t, Steps p.tables e below S0 t → Steps p.tables e below (s₁.setTop (entryFrame m #[(.ref a1)] 1)) t := fun t k => by rw [hS0] at k; exact k
 obtain ⟨T1, X1, e1, st1⟩ := getS2 X0 hx hZ hown (host := "") (Or.inl (H 89 rfl)) Via.refl e0 (qC.1.ext O0.2) (g := (own_top pre0)) rfl (hb hby d14_0)
 have pre2 : own_Go p e below S0 (T1.setTop (mkF m 7 #[vR a1] [(.ref a1)])) := by
  intro t kt
  refine pre0 t ?_
  refine st1 _ ?_
  refine XS.ifNo X1.here hx rfl (hb hby d14_3) rfl ((if0 _ _).trans (feq qC.2).1) ?_
  refine XS.aloadN X1.here hx rfl (hb hby d14_6) rfl rfl ?_
  exact kt
 obtain ⟨T3, X3, e3, st3⟩ := getF X1 hx hZ hown (host := "") (Or.inl (H 62 rfl)) Via.refl e1 FC (g := (own_top pre2)) rfl rfl (hb hby d14_7)
 have pre4 : own_Go p e below S0 (T3.setTop (mkF m 14 #[vR a1] [(.int 0)])) := by
  intro t kt
  refine pre2 t ?_
  refine st3 _ ?_
  refine XS.goto X3.here hx rfl (pc0 := 10) (pc' := 14) rfl (hb hby d14_10) (by decide) (by decide) ?_
  exact kt
 obtain ⟨fs, hr, hrun, hended, hW, hsame⟩ := X3.leave (v := some (.int 0)) (fun h => by rw [Bd.returns] at h; cases h)
 refine ⟨_, _, fin _ (pre4 _ ?_), hrun, hended, _, _, rfl, ?_, ⟨_, rfl⟩, hW, hsame.mono (by decide) (by decide)⟩
 ·exact retN X3 hx (t := .byte) Bd.returns (by simp) (hb hby d14_14) hr
 ·show Qcoder0 Z a1 wC h0 n0 _ T3.heap _
  rw [e3]
  exact ⟨rfl, N0, rfl⟩

theorem d20_0 : decode jdk_42_method_154_code 0 = .ok (.getstatic 38, 3) := by decide +kernel
theorem d20_3 : decode jdk_42_method_154_code 3 = .ok (.ifCond .eq 14, 3) := by decide +kernel
theorem d20_6 : decode jdk_42_method_154_code 6 = .ok (.aload_n 0, 1) := by decide +kernel
theorem d20_7 : decode jdk_42_method_154_code 7 = .ok (.getfield 15, 3) := by decide +kernel
theorem d20_10 : decode jdk_42_method_154_code 10 = .ok (.ifCond .ne 7, 3) := by decide +kernel
theorem d20_13 : decode jdk_42_method_154_code 13 = .ok (.iconst 1, 1) := by decide +kernel
theorem d20_14 : decode jdk_42_method_154_code 14 = .ok (.goto 4, 3) := by decide +kernel
theorem d20_18 : decode jdk_42_method_154_code 18 = .ok (.ireturn, 1) := by decide +kernel
theorem pn_20 : plainName "java/lang/String" = true := by first | (simp [plainName, overriddenIn]; done) | decide +kernel
theorem ef_isLat0 (m : MethodId) (x0 : Addr) : entryFrame m #[(.ref x0)] 1 = mkF m 0 #[vR x0] [] := by first | (simp [entryFrame, mkF, argsToLocals, Value.category]; done) | rfl
def QisLat0 (Z : State) (a1 : Addr) (wC : Int32) (h0 : Heap) (n0 : Nat) (v : Option Value) (h : Heap) (L : List Loc) : Prop := v = (some (.int 1)) ∧ Fr n0 L ∧ h = h0
set_option maxRecDepth 65536 in
set_option maxHeartbeats 40000000 in
theorem rmisLat0 (l : Launch) (Z : State) (a0 : Array Value) (hw : ∀ d ∈ tables_1, d.before a0 Z = true) (ws : List Jvm.Cond) (a1 : Addr) (wC : Int32) (h0 : Heap) (n0 : Nat) (Z0 : n0 ≤ h0.size) (O0 : Old Z n0 h0) (qC : (own_SC Z wC)) (FC : Fld Z h0 a1 "java/lang/String" "coder" "B" (.int 0)) :
  MetFree l own_m18 (head1 (Jvm.Cond.code own_m18 jdk_42_method_154_code 1 (some .boolean) :: ws) (own_r 0 0 0 0)) (fun a U => a = #[(.ref a1)] ∧ Z.Warmed39 U.vm ∧ U.heap = h0) (fun _ _ _ _ _ => True) (fun _ U o U' => ∃ v L, o = .returned v ∧ QisLat0 Z a1 wC h0 n0 v U'.heap L ∧ FrameEnd U o U' L (own_r 0 0 0 0).cells (own_r 0 0 0 0).slots) := by
 refine MetFree.of_bodySF (plainFor_of_name pn_20) hisR ?_
 intro p e s m args below meth c s₁ Bd hml0 hP hK
 have H : ∀ (i : Nat) {d : Jvm.Cond}, tables_1[i]? = some d → d.before a0 Z = true := fun i _ h => hw _ (own_w i h)
 obtain ⟨rfl, hZ, hh⟩ := hP
 have hx := Bd.exec
 have hby := Bd.bytes
 have hml : c.maxLocals = 1 := hml0
 have hown0 := findClass_of_methodNamed Bd.named
 have hown : s.vm.findClass "java/lang/String" = some m.cls := hown0
 have hnm := (name_of_methodNamed Bd.named Bd.method).1
 have X0 : Stand p l e (own_r 0 0 0 0) s m #[(.ref a1)] below meth c s₁ [] 0 0 := Stand.of_body Bd
 have e0 : s₁.heap = h0 := by rw [← hh, Bd.state]; rfl
 have N0 := Fr.nil n0
 obtain ⟨S0, hS0⟩ : ∃ z, z = s₁.setTop (entryFrame m #[(.ref a1)] 1) := ⟨_, rfl⟩
 have pre0 : own_Go p e below S0 (s₁.setTop (mkF m 0 #[vR a1] [])) := fun t k => by rw [hS0]; exact castTop (ef_isLat0 m a1) k
 have fin : ∀ t, Steps p.tables e below S0 t → Steps p.tables e below (s₁.setTop (entryFrame m #[(.ref a1)] 1)) t := fun t k => by rw [hS0] at k; exact k
 obtain ⟨T1, X1, e1, st1⟩ := getS2 X0 hx hZ hown (host := "") (Or.inl (H 89 rfl)) Via.refl e0 (qC.1.ext O0.2) (g := (own_top pre0)) rfl (hb hby d20_0)
 have pre2 : own_Go p e below S0 (T1.setTop (mkF m 7 #[vR a1] [(.ref a1)])) := by
  intro t kt
  refine pre0 t ?_
  refine st1 _ ?_
  refine XS.ifNo X1.here hx rfl (hb hby d20_3) rfl ((if0 _ _).trans (feq qC.2).1) ?_
  refine XS.aloadN X1.here hx rfl (hb hby d20_6) rfl rfl ?_
  exact kt
 obtain ⟨T3, X3, e3, st3⟩ := getF X1 hx hZ hown (host := "") (Or.inl (H 62 rfl)) Via.refl e1 FC (g := (own_top pre2)) rfl rfl (hb hby d20_7)
 have pre4 : own_Go p e below S0 (T3.setTop (mkF m 18 #[vR a1] [(.int 1)])) := by
  intro t kt
  refine pre2 t ?_
  refine st3 _ ?_
  refine XS.ifNo X3.here hx rfl (hb hby d20_10) rfl ((if0 _ _).trans (teq (by decide : (0 : Int32) = (0 : Int32))).2) ?_
  refine XS.iconst X3.here hx rfl (hb hby d20_13) ?_
  refine XS.goto X3.here hx rfl (pc0 := 14) (pc' := 18) rfl (hb hby d20_14) (by decide) (by decide) ?_
  exact kt
 obtain ⟨fs, hr, hrun, hended, hW, hsame⟩ := X3.leave (v := some (.int 1)) (fun h => by rw [Bd.returns] at h; cases h)
 refine ⟨_, _, fin _ (pre4 _ ?_), hrun, hended, _, _, rfl, ?_, ⟨_, rfl⟩, hW, hsame.mono (by decide) (by decide)⟩
 ·exact retN X3 hx (t := .boolean) Bd.returns (by simp) (hb hby d20_18) hr
 ·show QisLat0 Z a1 wC h0 n0 _ T3.heap _
  rw [e3]
  exact ⟨rfl, N0, rfl⟩

theorem d23_0 : decode jdk_41_method_11_code 0 = .ok (.iload_n 0, 1) := by decide +kernel
theorem d23_1 : decode jdk_41_method_11_code 1 = .ok (.ifCond .lt 8, 3) := by decide +kernel
theorem d23_4 : decode jdk_41_method_11_code 4 = .ok (.iload_n 0, 1) := by decide +kernel
theorem d23_5 : decode jdk_41_method_11_code 5 = .ok (.iload_n 1, 1) := by decide +kernel
theorem d23_6 : decode jdk_41_method_11_code 6 = .ok (.if_icmp .lt 10, 3) := by decide +kernel
theorem d23_16 : decode jdk_41_method_11_code 16 = .ok (.iload_n 0, 1) := by decide +kernel
theorem d23_17 : decode jdk_41_method_11_code 17 = .ok (.ireturn, 1) := by decide +kernel
theorem pn_23 : plainName "jdk/internal/util/Preconditions" = true := by first | (simp [plainName, overriddenIn]; done) | decide +kernel
theorem ef_pck_n (m : MethodId) (x0 : Int32) (x1 : Int32) : entryFrame m #[(.int x0), (.int x1), .null] 3 = mkF m 0 #[vI x0, vI x1, .val .null] [] := by first | (simp [entryFrame, mkF, argsToLocals, Value.category]; done) | rfl
def Qpck_n (Z : State) (p1 : Int32) (p2 : Int32) (h0 : Heap) (n0 : Nat) (v : Option Value) (h : Heap) (L : List Loc) : Prop := v = (some (.int p1)) ∧ Fr n0 L ∧ h = h0
set_option maxRecDepth 65536 in
set_option maxHeartbeats 40000000 in
theorem rmpck_n (l : Launch) (Z : State) (a0 : Array Value) (hw : ∀ d ∈ tables_1, d.before a0 Z = true) (ws : List Jvm.Cond) (p1 : Int32) (p2 : Int32) (h0 : Heap) (n0 : Nat) (Z0 : n0 ≤ h0.size) (h1 : (¬ p1 < (0 : Int32))) (h2 : (p1 < p2)) :
  MetFree l own_m31 (head1 (Jvm.Cond.code own_m31 jdk_41_method_11_code 3 (some .int) :: ws) (own_r 0 0 0 0)) (fun a U => a = #[(.int p1), (.int p2), .null] ∧ Z.Warmed39 U.vm ∧ U.heap = h0) (fun _ _ _ _ _ => True) (fun _ U o U' => ∃ v L, o = .returned v ∧ Qpck_n Z p1 p2 h0 n0 v U'.heap L ∧ FrameEnd U o U' L (own_r 0 0 0 0).cells (own_r 0 0 0 0).slots) := by
 refine MetFree.of_bodySF (plainFor_of_name pn_23) hisR ?_
 intro p e s m args below meth c s₁ Bd hml0 hP hK
 have H : ∀ (i : Nat) {d : Jvm.Cond}, tables_1[i]? = some d → d.before a0 Z = true := fun i _ h => hw _ (own_w i h)
 obtain ⟨rfl, hZ, hh⟩ := hP
 have hx := Bd.exec
 have hby := Bd.bytes
 have hml : c.maxLocals = 3 := hml0
 have hown0 := findClass_of_methodNamed Bd.named
 have hown : s.vm.findClass "jdk/internal/util/Preconditions" = some m.cls := hown0
 have hnm := (name_of_methodNamed Bd.named Bd.method).1
 have X0 : Stand p l e (own_r 0 0 0 0) s m #[(.int p1), (.int p2), .null] below meth c s₁ [] 0 0 := Stand.of_body Bd
 have e0 : s₁.heap = h0 := by rw [← hh, Bd.state]; rfl
 have N0 := Fr.nil n0
 obtain ⟨S0, hS0⟩ : ∃ z, z = s₁.setTop (entryFrame m #[(.int p1), (.int p2), .null] 3) := ⟨_, rfl⟩
 have pre0 : own_Go p e below S0 (s₁.setTop (mkF m 0 #[vI p1, vI p2, .val .null] [])) := fun t k => by rw [hS0]; exact castTop (ef_pck_n m p1 p2) k
 have fin : ∀ t, Steps p.tables e below S0 t → Steps p.tables e below (s₁.setTop (entryFrame m #[(.int p1), (.int p2), .null] 3)) t := fun t k => by rw [hS0] at k; exact k
 have pre1 : own_Go p e below S0 (s₁.setTop (mkF m 17 #[vI p1, vI p2, .val .null] [(.int p1)])) := by
  intro t kt
  refine pre0 t ?_
  refine XS.iloadN X0.here hx rfl (hb hby d23_0) rfl ?_
  refine XS.ifNo X0.here hx rfl (hb hby d23_1) rfl ((if0 _ _).trans (flt h1).1) ?_
  refine XS.iloadN X0.here hx rfl (hb hby d23_4) rfl ?_
  refine XS.iloadN X0.here hx rfl (hb hby d23_5) rfl ?_
  refine XS.icmpYes X0.here hx rfl (pc0 := 6) (pc' := 16) rfl (hb hby d23_6) rfl (tlt h2).1 (by decide) (by decide) ?_
  refine XS.iloadN X0.here hx rfl (hb hby d23_16) rfl ?_
  exact kt
 obtain ⟨fs, hr, hrun, hended, hW, hsame⟩ := X0.leave (v := some (.int p1)) (fun h => by rw [Bd.returns] at h; cases h)
 refine ⟨_, _, fin _ (pre1 _ ?_), hrun, hended, _, _, rfl, ?_, ⟨_, rfl⟩, hW, hsame.mono (by decide) (by decide)⟩
 ·exact retI X0 hx Bd.returns (hb hby d23_17) hr
 ·show Qpck_n Z p1 p2 h0 n0 _ s₁.heap _
  rw [e0]
  exact ⟨rfl, N0, rfl⟩

theorem ef_pck_r (m : MethodId) (x0 : Int32) (x1 : Int32) (x2 : Addr) : entryFrame m #[(.int x0), (.int x1), (.ref x2)] 3 = mkF m 0 #[vI x0, vI x1, vR x2] [] := by first | (simp [entryFrame, mkF, argsToLocals, Value.category]; done) | rfl
def Qpck_r (Z : State) (p1 : Int32) (p2 : Int32) (a3 : Addr) (h0 : Heap) (n0 : Nat) (v : Option Value) (h : Heap) (L : List Loc) : Prop := v = (some (.int p1)) ∧ Fr n0 L ∧ h = h0
set_option maxRecDepth 65536 in
set_option maxHeartbeats 40000000 in
theorem rmpck_r (l : Launch) (Z : State) (a0 : Array Value) (hw : ∀ d ∈ tables_1, d.before a0 Z = true) (ws : List Jvm.Cond) (p1 : Int32) (p2 : Int32) (a3 : Addr) (h0 : Heap) (n0 : Nat) (Z0 : n0 ≤ h0.size) (h1 : (¬ p1 < (0 : Int32))) (h2 : (p1 < p2)) :
  MetFree l own_m31 (head1 (Jvm.Cond.code own_m31 jdk_41_method_11_code 3 (some .int) :: ws) (own_r 0 0 0 0)) (fun a U => a = #[(.int p1), (.int p2), (.ref a3)] ∧ Z.Warmed39 U.vm ∧ U.heap = h0) (fun _ _ _ _ _ => True) (fun _ U o U' => ∃ v L, o = .returned v ∧ Qpck_r Z p1 p2 a3 h0 n0 v U'.heap L ∧ FrameEnd U o U' L (own_r 0 0 0 0).cells (own_r 0 0 0 0).slots) := by
 refine MetFree.of_bodySF (plainFor_of_name pn_23) hisR ?_
 intro p e s m args below meth c s₁ Bd hml0 hP hK
 have H : ∀ (i : Nat) {d : Jvm.Cond}, tables_1[i]? = some d → d.before a0 Z = true := fun i _ h => hw _ (own_w i h)
 obtain ⟨rfl, hZ, hh⟩ := hP
 have hx := Bd.exec
 have hby := Bd.bytes
 have hml : c.maxLocals = 3 := hml0
 have hown0 := findClass_of_methodNamed Bd.named
 have hown : s.vm.findClass "jdk/internal/util/Preconditions" = some m.cls := hown0
 have hnm := (name_of_methodNamed Bd.named Bd.method).1
 have X0 : Stand p l e (own_r 0 0 0 0) s m #[(.int p1), (.int p2), (.ref a3)] below meth c s₁ [] 0 0 := Stand.of_body Bd
 have e0 : s₁.heap = h0 := by rw [← hh, Bd.state]; rfl
 have N0 := Fr.nil n0
 obtain ⟨S0, hS0⟩ : ∃ z, z = s₁.setTop (entryFrame m #[(.int p1), (.int p2), (.ref a3)] 3) := ⟨_, rfl⟩
 have pre0 : own_Go p e below S0 (s₁.setTop (mkF m 0 #[vI p1, vI p2, vR a3] [])) := fun t k => by rw [hS0]; exact castTop (ef_pck_r m p1 p2 a3) k
 have fin : ∀ t, Steps p.tables e below S0 t → Steps p.tables e below (s₁.setTop (entryFrame m #[(.int p1), (.int p2), (.ref a3)] 3)) t := fun t k => by rw [hS0] at k; exact k
 have pre1 : own_Go p e below S0 (s₁.setTop (mkF m 17 #[vI p1, vI p2, vR a3] [(.int p1)])) := by
  intro t kt
  refine pre0 t ?_
  refine XS.iloadN X0.here hx rfl (hb hby d23_0) rfl ?_
  refine XS.ifNo X0.here hx rfl (hb hby d23_1) rfl ((if0 _ _).trans (flt h1).1) ?_
  refine XS.iloadN X0.here hx rfl (hb hby d23_4) rfl ?_
  refine XS.iloadN X0.here hx rfl (hb hby d23_5) rfl ?_
  refine XS.icmpYes X0.here hx rfl (pc0 := 6) (pc' := 16) rfl (hb hby d23_6) rfl (tlt h2).1 (by decide) (by decide) ?_
  refine XS.iloadN X0.here hx rfl (hb hby d23_16) rfl ?_
  exact kt
 obtain ⟨fs, hr, hrun, hended, hW, hsame⟩ := X0.leave (v := some (.int p1)) (fun h => by rw [Bd.returns] at h; cases h)
 refine ⟨_, _, fin _ (pre1 _ ?_), hrun, hended, _, _, rfl, ?_, ⟨_, rfl⟩, hW, hsame.mono (by decide) (by decide)⟩
 ·exact retI X0 hx Bd.returns (hb hby d23_17) hr
 ·show Qpck_r Z p1 p2 a3 h0 n0 _ s₁.heap _
  rw [e0]
  exact ⟨rfl, N0, rfl⟩

theorem d22_0 : decode jdk_42_method_155_code 0 = .ok (.iload_n 0, 1) := by decide +kernel
theorem d22_1 : decode jdk_42_method_155_code 1 = .ok (.iload_n 1, 1) := by decide +kernel
theorem d22_2 : decode jdk_42_method_155_code 2 = .ok (.getstatic 1053, 3) := by decide +kernel
theorem d22_5 : decode jdk_42_method_155_code 5 = .ok (.invokestatic 1059, 3) := by decide +kernel
theorem d22_8 : decode jdk_42_method_155_code 8 = .ok (.pop, 1) := by decide +kernel
theorem d22_9 : decode jdk_42_method_155_code 9 = .ok (.return_, 1) := by decide +kernel
theorem pn_22 : plainName "java/lang/String" = true := by first | (simp [plainName, overriddenIn]; done) | decide +kernel
theorem pd_14 : parseMethodDescriptor "(IILjava/util/function/BiFunction;)I" = some ⟨[.int, .int, (.object "java/util/function/BiFunction")], some .int⟩ := by decide +kernel
theorem ef_sck (m : MethodId) (x0 : Int32) (x1 : Int32) : entryFrame m #[(.int x0), (.int x1)] 2 = mkF m 0 #[vI x0, vI x1] [] := by first | (simp [entryFrame, mkF, argsToLocals, Value.category]; done) | rfl
def Qsck (Z : State) (p1 : Int32) (p2 : Int32) (wF : Value) (h0 : Heap) (n0 : Nat) (v : Option Value) (h : Heap) (L : List Loc) : Prop := v = none ∧ Fr n0 L ∧ h = h0
set_option maxRecDepth 65536 in
set_option maxHeartbeats 40000000 in
theorem rmsck (l : Launch) (Z : State) (a0 : Array Value) (hw : ∀ d ∈ tables_1, d.before a0 Z = true) (ws : List Jvm.Cond) (p1 : Int32) (p2 : Int32) (wF : Value) (h0 : Heap) (n0 : Nat) (Z0 : n0 ≤ h0.size) (O0 : Old Z n0 h0) (qF : (own_SF Z wF)) (h1 : (¬ p1 < (0 : Int32))) (h2 : (p1 < p2)) :
  MetFree l own_m16 (head1 (Jvm.Cond.code own_m16 jdk_42_method_155_code 2 none :: ws) (own_r 1 0 0 14)) (fun a U => a = #[(.int p1), (.int p2)] ∧ Z.Warmed39 U.vm ∧ U.heap = h0) (fun _ _ _ _ _ => True) (fun _ U o U' => ∃ v L, o = .returned v ∧ Qsck Z p1 p2 wF h0 n0 v U'.heap L ∧ FrameEnd U o U' L (own_r 1 0 0 14).cells (own_r 1 0 0 14).slots) := by
 refine MetFree.of_bodySF (plainFor_of_name pn_22) hisR ?_
 intro p e s m args below meth c s₁ Bd hml0 hP hK
 have H : ∀ (i : Nat) {d : Jvm.Cond}, tables_1[i]? = some d → d.before a0 Z = true := fun i _ h => hw _ (own_w i h)
 obtain ⟨rfl, hZ, hh⟩ := hP
 have hx := Bd.exec
 have hby := Bd.bytes
 have hml : c.maxLocals = 2 := hml0
 have hown0 := findClass_of_methodNamed Bd.named
 have hown : s.vm.findClass "java/lang/String" = some m.cls := hown0
 have hnm := (name_of_methodNamed Bd.named Bd.method).1
 have X0 : Stand p l e (own_r 1 0 0 14) s m #[(.int p1), (.int p2)] below meth c s₁ [] 0 0 := Stand.of_body Bd
 have e0 : s₁.heap = h0 := by rw [← hh, Bd.state]; rfl
 have N0 := Fr.nil n0
 obtain ⟨S0, hS0⟩ : ∃ z, z = s₁.setTop (entryFrame m #[(.int p1), (.int p2)] 2) := ⟨_, rfl⟩
 have pre0 : own_Go p e below S0 (s₁.setTop (mkF m 0 #[vI p1, vI p2] [])) := fun t k => by rw [hS0]; exact castTop (ef_sck m p1 p2) k
 have fin : ∀ t, Steps p.tables e below S0 t → Steps p.tables e below (s₁.setTop (entryFrame m #[(.int p1), (.int p2)] 2)) t := fun t k => by rw [hS0] at k; exact k
 have pre1 : own_Go p e below S0 (s₁.setTop (mkF m 2 #[vI p1, vI p2] [(.int p2), (.int p1)])) := by
  intro t kt
  refine pre0 t ?_
  refine XS.iloadN X0.here hx rfl (hb hby d22_0) rfl ?_
  refine XS.iloadN X0.here hx rfl (hb hby d22_1) rfl ?_
  exact kt
 obtain ⟨T2, X2, e2, st2⟩ := getS2 X0 hx hZ hown (host := "") (Or.inl (H 128 rfl)) Via.refl e0 (qF.1.ext O0.2) (g := (own_top pre1)) rfl (hb hby d22_2)
 have pre3 : own_Go p e below S0 (T2.setTop (mkF m 5 #[vI p1, vI p2] [wF, (.int p2), (.int p1)])) := by
  intro t kt
  refine pre1 t ?_
  refine st2 _ ?_
  exact kt
 obtain hwF | ⟨aF, hwF⟩ := ref_cases qF.2
 ·have pre4 : own_Go p e below S0 (T2.setTop (mkF m 5 #[vI p1, vI p2] [.null, (.int p2), (.int p1)])) := by
   intro t kt
   refine pre3 t ?_
   rw [hwF]
   exact kt
  obtain ⟨_, _, ⟨T5, L5, k5, n5⟩, -, X5, ⟨Lc5, hQ5, l5, y5, z5⟩, st5⟩ := Jvm.LawKit.callS X2 hx (y := own_m31) hown (mvT hZ (H 130 rfl)) (mvT hZ (H 131 rfl)) (mvT hZ (H 129 rfl)) (mvT hZ (H 132 rfl)) (by decide) (backOf (W := 0) (rmpck_n l Z a0 hw [] p1 p2 h0 n0 Z0 h1 h2) hZ (H 132 rfl) (H 129 rfl) (by decide) (by decide)) (g := (own_top pre4)) rfl (by rw [hml]; rfl) (argsL := [(.int p1), (.int p2), .null]) (rest := []) (lenOf pd_14 rfl) rfl (by show 2 * 0 + _ ≤ _; exact Nat.le_of_eq rfl) (hb hby d22_5) (fun _ _ => ⟨rfl, e2, (by decide : 0 + 0 ≤ _), (by decide : 0 + 0 ≤ _)⟩)
  dsimp only [Pt.U, Pt.locs, Pt.cells, Pt.slots] at X5 l5 y5 z5 st5 hQ5
  subst l5 y5 z5
  obtain ⟨rfl, Nq5, eq5⟩ := hQ5
  have N5 := Fr.app N0 Nq5
  have pre6 : own_Go p e below S0 (T5.setTop (mkF m 9 #[vI p1, vI p2] [])) := by
   intro t kt
   refine pre4 t ?_
   refine st5 _ ?_
   show Steps p.tables e below (T5.setTop (mkF m 8 #[vI p1, vI p2] [(.int p1)])) _
   refine XS.pop X5.here hx rfl (hb hby d22_8) rfl rfl ?_
   exact kt
  obtain ⟨fs, hr, hrun, hended, hW, hsame⟩ := X5.leave (v := none) (fun _ => rfl)
  refine ⟨_, _, fin _ (pre6 _ ?_), hrun, hended, _, _, rfl, ?_, ⟨_, rfl⟩, hW, hsame.mono (by decide) (by decide)⟩
  ·exact X5.returnOut hx Bd.returns (hb hby d22_9) hr
  ·show Qsck Z p1 p2 wF h0 n0 _ T5.heap _
   rw [eq5]
   exact ⟨rfl, N5, rfl⟩
 ·have pre7 : own_Go p e below S0 (T2.setTop (mkF m 5 #[vI p1, vI p2] [(.ref aF), (.int p2), (.int p1)])) := by
   intro t kt
   refine pre3 t ?_
   rw [hwF]
   exact kt
  obtain ⟨_, _, ⟨T8, L8, k8, n8⟩, -, X8, ⟨Lc8, hQ8, l8, y8, z8⟩, st8⟩ := Jvm.LawKit.callS X2 hx (y := own_m31) hown (mvT hZ (H 130 rfl)) (mvT hZ (H 131 rfl)) (mvT hZ (H 129 rfl)) (mvT hZ (H 132 rfl)) (by decide) (backOf (W := 0) (rmpck_r l Z a0 hw [] p1 p2 aF h0 n0 Z0 h1 h2) hZ (H 132 rfl) (H 129 rfl) (by decide) (by decide)) (g := (own_top pre7)) rfl (by rw [hml]; rfl) (argsL := [(.int p1), (.int p2), (.ref aF)]) (rest := []) (lenOf pd_14 rfl) rfl (by show 2 * 0 + _ ≤ _; exact Nat.le_of_eq rfl) (hb hby d22_5) (fun _ _ => ⟨rfl, e2, (by decide : 0 + 0 ≤ _), (by decide : 0 + 0 ≤ _)⟩)
  dsimp only [Pt.U, Pt.locs, Pt.cells, Pt.slots] at X8 l8 y8 z8 st8 hQ8
  subst l8 y8 z8
  obtain ⟨rfl, Nq8, eq8⟩ := hQ8
  have N8 := Fr.app N0 Nq8
  have pre9 : own_Go p e below S0 (T8.setTop (mkF m 9 #[vI p1, vI p2] [])) := by
   intro t kt
   refine pre7 t ?_
   refine st8 _ ?_
   show Steps p.tables e below (T8.setTop (mkF m 8 #[vI p1, vI p2] [(.int p1)])) _
   refine XS.pop X8.here hx rfl (hb hby d22_8) rfl rfl ?_
   exact kt
  obtain ⟨fs, hr, hrun, hended, hW, hsame⟩ := X8.leave (v := none) (fun _ => rfl)
  refine ⟨_, _, fin _ (pre9 _ ?_), hrun, hended, _, _, rfl, ?_, ⟨_, rfl⟩, hW, hsame.mono (by decide) (by decide)⟩
  ·exact X8.returnOut hx Bd.returns (hb hby d22_9) hr
  ·show Qsck Z p1 p2 wF h0 n0 _ T8.heap _
   rw [eq8]
   exact ⟨rfl, N8, rfl⟩

theorem d21_0 : decode jdk_43_method_2_code 0 = .ok (.iload_n 1, 1) := by decide +kernel
theorem d21_1 : decode jdk_43_method_2_code 1 = .ok (.aload_n 0, 1) := by decide +kernel
theorem d21_2 : decode jdk_43_method_2_code 2 = .ok (.arraylength, 1) := by decide +kernel
theorem d21_3 : decode jdk_43_method_2_code 3 = .ok (.invokestatic 9, 3) := by decide +kernel
theorem d21_6 : decode jdk_43_method_2_code 6 = .ok (.aload_n 0, 1) := by decide +kernel
theorem d21_7 : decode jdk_43_method_2_code 7 = .ok (.iload_n 1, 1) := by decide +kernel
theorem d21_8 : decode jdk_43_method_2_code 8 = .ok (.baload, 1) := by decide +kernel
theorem d21_9 : decode jdk_43_method_2_code 9 = .ok (.sipush 255, 3) := by decide +kernel
theorem d21_12 : decode jdk_43_method_2_code 12 = .ok (.iand, 1) := by decide +kernel
theorem d21_13 : decode jdk_43_method_2_code 13 = .ok (.i2c, 1) := by decide +kernel
theorem d21_14 : decode jdk_43_method_2_code 14 = .ok (.ireturn, 1) := by decide +kernel
theorem pn_21 : plainName "java/lang/StringLatin1" = true := by first | (simp [plainName, overriddenIn]; done) | decide +kernel
theorem ef_l1at (m : MethodId) (x0 : Addr) (x1 : Int32) : entryFrame m #[(.ref x0), (.int x1)] 2 = mkF m 0 #[vR x0, vI x1] [] := by first | (simp [entryFrame, mkF, argsToLocals, Value.category]; done) | rfl
def Ql1at (Z : State) (a1 : Addr) (p2 : Int32) (wF : Value) (k1 : ClassId) (z1 : Int32) (vs : List Value) (d1 : Value) (u : Int32) (h0 : Heap) (n0 : Nat) (v : Option Value) (h : Heap) (L : List Loc) : Prop := v = (some (.int (own_lc u))) ∧ Fr n0 L ∧ h = h0
set_option maxRecDepth 65536 in
set_option maxHeartbeats 40000000 in
theorem rml1at (l : Launch) (Z : State) (a0 : Array Value) (hw : ∀ d ∈ tables_1, d.before a0 Z = true) (ws : List Jvm.Cond) (a1 : Addr) (p2 : Int32) (wF : Value) (k1 : ClassId) (z1 : Int32) (vs : List Value) (d1 : Value) (u : Int32) (h0 : Heap) (n0 : Nat) (Z0 : n0 ≤ h0.size) (O0 : Old Z n0 h0) (qF : (own_SF Z wF)) (V1 : Arv Z h0 a1 k1 .byte z1 vs d1) (h1 : (¬ p2 < (0 : Int32))) (h2 : (p2 < z1)) (hg : (vs.getD p2.toNatClampNeg d1 = .int u)) :
  MetFree l own_m25 (head1 (Jvm.Cond.code own_m25 jdk_43_method_2_code 2 (some .char) :: ws) (own_r 2 0 0 27)) (fun a U => a = #[(.ref a1), (.int p2)] ∧ Z.Warmed39 U.vm ∧ U.heap = h0) (fun _ _ _ _ _ => True) (fun _ U o U' => ∃ v L, o = .returned v ∧ Ql1at Z a1 p2 wF k1 z1 vs d1 u h0 n0 v U'.heap L ∧ FrameEnd U o U' L (own_r 2 0 0 27).cells (own_r 2 0 0 27).slots) := by
 refine MetFree.of_bodySF (plainFor_of_name pn_21) hisR ?_
 intro p e s m args below meth c s₁ Bd hml0 hP hK
 have H : ∀ (i : Nat) {d : Jvm.Cond}, tables_1[i]? = some d → d.before a0 Z = true := fun i _ h => hw _ (own_w i h)
 obtain ⟨rfl, hZ, hh⟩ := hP
 have hx := Bd.exec
 have hby := Bd.bytes
 have hml : c.maxLocals = 2 := hml0
 have hown0 := findClass_of_methodNamed Bd.named
 have hown : s.vm.findClass "java/lang/StringLatin1" = some m.cls := hown0
 have hnm := (name_of_methodNamed Bd.named Bd.method).1
 have X0 : Stand p l e (own_r 2 0 0 27) s m #[(.ref a1), (.int p2)] below meth c s₁ [] 0 0 := Stand.of_body Bd
 have e0 : s₁.heap = h0 := by rw [← hh, Bd.state]; rfl
 have N0 := Fr.nil n0
 obtain ⟨S0, hS0⟩ : ∃ z, z = s₁.setTop (entryFrame m #[(.ref a1), (.int p2)] 2) := ⟨_, rfl⟩
 have pre0 : own_Go p e below S0 (s₁.setTop (mkF m 0 #[vR a1, vI p2] [])) := fun t k => by rw [hS0]; exact castTop (ef_l1at m a1 p2) k
 have fin : ∀ t, Steps p.tables e below S0 t → Steps p.tables e below (s₁.setTop (entryFrame m #[(.ref a1), (.int p2)] 2)) t := fun t k => by rw [hS0] at k; exact k
 have pre1 : own_Go p e below S0 (s₁.setTop (mkF m 2 #[vR a1, vI p2] [(.ref a1), (.int p2)])) := by
  intro t kt
  refine pre0 t ?_
  refine XS.iloadN X0.here hx rfl (hb hby d21_0) rfl ?_
  refine XS.aloadN X0.here hx rfl (hb hby d21_1) rfl rfl ?_
  exact kt
 obtain ⟨cl2, Ar2, -, Sz2, Ng2, -, -⟩ := id V1
 have pre3 : own_Go p e below S0 (s₁.setTop (mkF m 3 #[vR a1, vI p2] [(.int z1), (.int p2)])) := by
  intro t kt
  refine pre1 t ?_
  refine X0.arraylength hx (by rw [e0]; exact Ar2.1) (State.isArrayOf_alike hZ.alike Ar2.2.1) (g := (own_top pre1)) rfl rfl (hb hby d21_2) _ ?_
  rw [len_of Sz2 Ng2]
  show Steps p.tables e below (s₁.setTop (mkF m 3 #[vR a1, vI p2] [(.int z1), (.int p2)])) _
  exact kt
 obtain ⟨_, _, ⟨T4, L4, k4, n4⟩, -, X4, ⟨Lc4, hQ4, l4, y4, z4⟩, st4⟩ := Jvm.LawKit.callS X0 hx (y := own_m16) hown (mvT hZ (H 125 rfl)) (mvT hZ (H 126 rfl)) (mvT hZ (H 21 rfl)) (mvT hZ (H 127 rfl)) (by decide) (backOf (W := 0) (rmsck l Z a0 hw [] p2 z1 wF h0 n0 Z0 O0 qF h1 h2) hZ (H 127 rfl) (H 21 rfl) (by decide) (by decide)) (g := (own_top pre3)) rfl (by rw [hml]; rfl) (argsL := [(.int p2), (.int z1)]) (rest := []) (lenOf pd_2 rfl) rfl (by show 2 * 0 + _ ≤ _; exact Nat.le_of_eq rfl) (hb hby d21_3) (fun _ _ => ⟨rfl, e0, (by decide : 0 + 0 ≤ _), (by decide : 0 + 0 ≤ _)⟩)
 dsimp only [Pt.U, Pt.locs, Pt.cells, Pt.slots] at X4 l4 y4 z4 st4 hQ4
 subst l4 y4 z4
 obtain ⟨rfl, Nq4, eq4⟩ := hQ4
 have N4 := Fr.app N0 Nq4
 have pre5 : own_Go p e below S0 (T4.setTop (mkF m 8 #[vR a1, vI p2] [(.int p2), (.ref a1)])) := by
  intro t kt
  refine pre3 t ?_
  refine st4 _ ?_
  show Steps p.tables e below (T4.setTop (mkF m 6 #[vR a1, vI p2] [])) _
  refine XS.aloadN X4.here hx rfl (hb hby d21_6) rfl rfl ?_
  refine XS.iloadN X4.here hx rfl (hb hby d21_7) rfl ?_
  exact kt
 obtain ⟨cl6, Ar6, -, Sz6, -, Hs6, -⟩ := id V1
 have hin6 : ¬ (p2 < 0 ∨ cl6.slots.size ≤ (p2).toNatClampNeg) := inb_of Sz6 ⟨h1, h2⟩
 have pre7 : own_Go p e below S0 (T4.setTop (mkF m 14 #[vR a1, vI p2] [(.int ((u &&& (255 : Int32)).toUInt32.toUInt16.toUInt32.toInt32))])) := by
  intro t kt
  refine pre5 t ?_
  refine X4.baloadBytes hx (j := p2) (v := (.int u)) (by rw [eq4]; exact Ar6.1) (State.isArrayOf_alike hZ.alike Ar6.2.1) Ar6.2.2 hin6 (Hs6.at hin6 hg) (g := (mkF m 8 #[vR a1, vI p2] [(.int p2), (.ref a1)])) rfl rfl (hb hby d21_8) _ ?_
  refine XS.sipush X4.here hx rfl (hb hby d21_9) ?_
  refine XS.iand X4.here hx rfl (hb hby d21_12) rfl ?_
  refine XS.i2c X4.here hx rfl (hb hby d21_13) rfl ?_
  exact kt
 obtain ⟨fs, hr, hrun, hended, hW, hsame⟩ := X4.leave (v := some (.int (nar .char ((u &&& (255 : Int32)).toUInt32.toUInt16.toUInt32.toInt32)))) (fun h => by rw [Bd.returns] at h; cases h)
 refine ⟨_, _, fin _ (pre7 _ ?_), hrun, hended, _, _, rfl, ?_, ⟨_, rfl⟩, hW, hsame.mono (by decide) (by decide)⟩
 ·exact retN X4 hx (t := .char) Bd.returns (by simp) (hb hby d21_14) hr
 ·show Ql1at Z a1 p2 wF k1 z1 vs d1 u h0 n0 _ T4.heap _
  rw [eq4]
  exact ⟨rfl, N4, rfl⟩

theorem d19_0 : decode jdk_42_method_56_code 0 = .ok (.aload_n 0, 1) := by decide +kernel
theorem d19_1 : decode jdk_42_method_56_code 1 = .ok (.invokevirtual 492, 3) := by decide +kernel
theorem d19_4 : decode jdk_42_method_56_code 4 = .ok (.ifCond .eq 12, 3) := by decide +kernel
theorem d19_7 : decode jdk_42_method_56_code 7 = .ok (.aload_n 0, 1) := by decide +kernel
theorem d19_8 : decode jdk_42_method_56_code 8 = .ok (.getfield 9, 3) := by decide +kernel
theorem d19_11 : decode jdk_42_method_56_code 11 = .ok (.iload_n 1, 1) := by decide +kernel
theorem d19_12 : decode jdk_42_method_56_code 12 = .ok (.invokestatic 495, 3) := by decide +kernel
theorem d19_15 : decode jdk_42_method_56_code 15 = .ok (.ireturn, 1) := by decide +kernel
theorem pn_19 : plainName "java/lang/String" = true := by first | (simp [plainName, overriddenIn]; done) | decide +kernel
theorem pd_15 : parseMethodDescriptor "([BI)C" = some ⟨[(.array .byte), .int], some .char⟩ := by decide +kernel
theorem ef_chA (m : MethodId) (x0 : Addr) (x1 : Int32) : entryFrame m #[(.ref x0), (.int x1)] 2 = mkF m 0 #[vR x0, vI x1] [] := by first | (simp [entryFrame, mkF, argsToLocals, Value.category]; done) | rfl
def QchA (Z : State) (a1 : Addr) (p2 : Int32) (wC : Int32) (wF : Value) (vb : Addr) (k1 : ClassId) (z1 : Int32) (vs : List Value) (d1 : Value) (u : Int32) (h0 : Heap) (n0 : Nat) (v : Option Value) (h : Heap) (L : List Loc) : Prop := v = (some (.int (own_lc u))) ∧ Fr n0 L ∧ h = h0
set_option maxRecDepth 65536 in
set_option maxHeartbeats 40000000 in
theorem rmchA (l : Launch) (Z : State) (a0 : Array Value) (hw : ∀ d ∈ tables_1, d.before a0 Z = true) (ws : List Jvm.Cond) (a1 : Addr) (p2 : Int32) (wC : Int32) (wF : Value) (vb : Addr) (k1 : ClassId) (z1 : Int32) (vs : List Value) (d1 : Value) (u : Int32) (h0 : Heap) (n0 : Nat) (Z0 : n0 ≤ h0.size) (O0 : Old Z n0 h0) (qC : (own_SC Z wC)) (qF : (own_SF Z wF)) (pE1 : Exa Z h0 a1 "java/lang/String") (pF1 : Fld Z h0 a1 "java/lang/String" "coder" "B" (.int 0)) (pF2 : Fld Z h0 a1 "java/lang/String" "value" "[B" (.ref vb)) (V1 : Arv Z h0 vb k1 .byte z1 vs d1) (h1 : (¬ p2 < (0 : Int32))) (h2 : (p2 < z1)) (hg : (vs.getD p2.toNatClampNeg d1 = .int u)) :
  MetFree l own_m15 (head1 (Jvm.Cond.code own_m15 jdk_42_method_56_code 2 (some .char) :: ws) (own_r 3 0 0 40)) (fun a U => a = #[(.ref a1), (.int p2)] ∧ Z.Warmed39 U.vm ∧ U.heap = h0) (fun _ _ _ _ _ => True) (fun _ U o U' => ∃ v L, o = .returned v ∧ QchA Z a1 p2 wC wF vb k1 z1 vs d1 u h0 n0 v U'.heap L ∧ FrameEnd U o U' L (own_r 3 0 0 40).cells (own_r 3 0 0 40).slots) := by
 refine MetFree.of_bodySF (plainFor_of_name pn_19) hisR ?_
 intro p e s m args below meth c s₁ Bd hml0 hP hK
 have H : ∀ (i : Nat) {d : Jvm.Cond}, tables_1[i]? = some d → d.before a0 Z = true := fun i _ h => hw _ (own_w i h)
 obtain ⟨rfl, hZ, hh⟩ := hP
 have hx := Bd.exec
 have hby := Bd.bytes
 have hml : c.maxLocals = 2 := hml0
 have hown0 := findClass_of_methodNamed Bd.named
 have hown : s.vm.findClass "java/lang/String" = some m.cls := hown0
 have hnm := (name_of_methodNamed Bd.named Bd.method).1
 have X0 : Stand p l e (own_r 3 0 0 40) s m #[(.ref a1), (.int p2)] below meth c s₁ [] 0 0 := Stand.of_body Bd
 have e0 : s₁.heap = h0 := by rw [← hh, Bd.state]; rfl
 have N0 := Fr.nil n0
 obtain ⟨S0, hS0⟩ : ∃ z, z = s₁.setTop (entryFrame m #[(.ref a1), (.int p2)] 2) := ⟨_, rfl⟩
 have pre0 : own_Go p e below S0 (s₁.setTop (mkF m 0 #[vR a1, vI p2] [])) := fun t k => by rw [hS0]; exact castTop (ef_chA m a1 p2) k
 have fin : ∀ t, Steps p.tables e below S0 t → Steps p.tables e below (s₁.setTop (entryFrame m #[(.ref a1), (.int p2)] 2)) t := fun t k => by rw [hS0] at k; exact k
 have pre1 : own_Go p e below S0 (s₁.setTop (mkF m 1 #[vR a1, vI p2] [(.ref a1)])) := by
  intro t kt
  refine pre0 t ?_
  refine XS.aloadN X0.here hx rfl (hb hby d19_0) rfl rfl ?_
  exact kt
 obtain ⟨cq2, kq2, qa2, qb2, qc2⟩ := isOf hZ e0 pE1
 obtain ⟨_, _, ⟨T2, L2, k2, n2⟩, -, X2, ⟨Lc2, hQ2, l2, y2, z2⟩, st2⟩ := X0.virtualBack hx (y := own_m18) (z := own_m18) hown (mvT hZ (H 117 rfl)) (mvT hZ (H 118 rfl)) (notFace_of_selects (args := #[]) (mvT hZ (H 120 rfl))) (mvT hZ (H 120 rfl)) (mvT hZ (H 119 rfl)) (by decide) (backOf (W := 0) (rmisLat0 l Z a0 hw [] a1 wC h0 n0 Z0 O0 qC pF1) hZ (H 121 rfl) (H 21 rfl) (by decide) (by decide)) qa2 qc2 (g := (own_top pre1)) rfl (by rw [hml]; rfl) (Steps.refl _) (argsL := []) (rest := []) (lenOf pd_7 rfl) rfl (by show 2 * 0 + _ ≤ _; exact Nat.le_of_eq rfl) (hb hby d19_1) (fun _ _ => ⟨rfl, e0, (by decide : 0 + 0 ≤ _), (by decide : 0 + 0 ≤ _)⟩)
 dsimp only [Pt.U, Pt.locs, Pt.cells, Pt.slots] at X2 l2 y2 z2 st2 hQ2
 subst l2 y2 z2
 obtain ⟨rfl, Nq2, eq2⟩ := hQ2
 have N2 := Fr.app N0 Nq2
 have pre3 : own_Go p e below S0 (T2.setTop (mkF m 8 #[vR a1, vI p2] [(.ref a1)])) := by
  intro t kt
  refine pre1 t ?_
  refine st2.trans ?_
  show Steps p.tables e below (T2.setTop (mkF m 4 #[vR a1, vI p2] [(.int 1)])) _
  refine XS.ifNo X2.here hx rfl (hb hby d19_4) rfl ((if0 _ _).trans (feq (by decide : ¬ ((1 : Int32) = (0 : Int32)))).1) ?_
  refine XS.aloadN X2.here hx rfl (hb hby d19_7) rfl rfl ?_
  exact kt
 obtain ⟨T4, X4, e4, st4⟩ := getF X2 hx hZ hown (host := "") (Or.inl (H 77 rfl)) Via.refl eq2 pF2 (g := (own_top pre3)) rfl rfl (hb hby d19_8)
 have pre5 : own_Go p e below S0 (T4.setTop (mkF m 12 #[vR a1, vI p2] [(.int p2), (.ref vb)])) := by
  intro t kt
  refine pre3 t ?_
  refine st4 _ ?_
  refine XS.iloadN X4.here hx rfl (hb hby d19_11) rfl ?_
  exact kt
 obtain ⟨_, _, ⟨T6, L6, k6, n6⟩, -, X6, ⟨Lc6, hQ6, l6, y6, z6⟩, st6⟩ := Jvm.LawKit.callS X4 hx (y := own_m25) hown (mvT hZ (H 122 rfl)) (mvT hZ (H 123 rfl)) (mvT hZ (H 107 rfl)) (mvT hZ (H 124 rfl)) (by decide) (backOf (W := 0) (rml1at l Z a0 hw [] vb p2 wF k1 z1 vs d1 u h0 n0 Z0 O0 qF V1 h1 h2 hg) hZ (H 124 rfl) (H 107 rfl) (by decide) (by decide)) (g := (own_top pre5)) rfl (by rw [hml]; rfl) (argsL := [(.ref vb), (.int p2)]) (rest := []) (lenOf pd_15 rfl) rfl (by show 2 * 0 + _ ≤ _; exact Nat.le_of_eq rfl) (hb hby d19_12) (fun _ _ => ⟨rfl, e4, (by decide : 0 + 0 ≤ _), (by decide : 0 + 0 ≤ _)⟩)
 dsimp only [Pt.U, Pt.locs, Pt.cells, Pt.slots] at X6 l6 y6 z6 st6 hQ6
 subst l6 y6 z6
 obtain ⟨rfl, Nq6, eq6⟩ := hQ6
 have N6 := Fr.app N2 Nq6
 have pre7 : own_Go p e below S0 (T6.setTop (mkF m 15 #[vR a1, vI p2] [(.int (own_lc u))])) := by
  intro t kt
  refine pre5 t ?_
  refine st6 _ ?_
  show Steps p.tables e below (T6.setTop (mkF m 15 #[vR a1, vI p2] [(.int (own_lc u))])) _
  exact kt
 obtain ⟨fs, hr, hrun, hended, hW, hsame⟩ := X6.leave (v := some (.int (nar .char (own_lc u)))) (fun h => by rw [Bd.returns] at h; cases h)
 refine ⟨_, _, fin _ (pre7 _ ?_), hrun, hended, _, _, rfl, ?_, ⟨_, rfl⟩, hW, hsame.mono (by decide) (by decide)⟩
 ·exact retN X6 hx (t := .char) Bd.returns (by simp) (hb hby d19_15) hr
 ·show QchA Z a1 p2 wC wF vb k1 z1 vs d1 u h0 n0 _ T6.heap _
  rw [eq6]
  exact ⟨(congrArg (fun q => some (Value.int q)) (own_lcN _)), N6, rfl⟩

theorem d13_0 : decode jdk_42_method_54_code 0 = .ok (.aload_n 0, 1) := by decide +kernel
theorem d13_1 : decode jdk_42_method_54_code 1 = .ok (.getfield 9, 3) := by decide +kernel
theorem d13_4 : decode jdk_42_method_54_code 4 = .ok (.arraylength, 1) := by decide +kernel
theorem d13_5 : decode jdk_42_method_54_code 5 = .ok (.aload_n 0, 1) := by decide +kernel
theorem d13_6 : decode jdk_42_method_54_code 6 = .ok (.invokevirtual 335, 3) := by decide +kernel
theorem d13_9 : decode jdk_42_method_54_code 9 = .ok (.ishr, 1) := by decide +kernel
theorem d13_10 : decode jdk_42_method_54_code 10 = .ok (.ireturn, 1) := by decide +kernel
theorem pn_13 : plainName "java/lang/String" = true := by first | (simp [plainName, overriddenIn]; done) | decide +kernel
theorem pd_16 : parseMethodDescriptor "()B" = some ⟨[], some .byte⟩ := by decide +kernel
theorem ef_lenL (m : MethodId) (x0 : Addr) : entryFrame m #[(.ref x0)] 1 = mkF m 0 #[vR x0] [] := by first | (simp [entryFrame, mkF, argsToLocals, Value.category]; done) | rfl
def QlenL (Z : State) (a1 : Addr) (wC : Int32) (vb : Addr) (kb : ClassId) (cs : List Int32) (h0 : Heap) (n0 : Nat) (v : Option Value) (h : Heap) (L : List Loc) : Prop := v = (some (.int (own_len cs))) ∧ Fr n0 L ∧ h = h0
set_option maxRecDepth 65536 in
set_option maxHeartbeats 40000000 in
theorem rmlenL (l : Launch) (Z : State) (a0 : Array Value) (hw : ∀ d ∈ tables_1, d.before a0 Z = true) (ws : List Jvm.Cond) (a1 : Addr) (wC : Int32) (vb : Addr) (kb : ClassId) (cs : List Int32) (h0 : Heap) (n0 : Nat) (Z0 : n0 ≤ h0.size) (O0 : Old Z n0 h0) (qC : (own_SC Z wC)) (hS : own_StrL Z h0 a1 vb kb cs) :
  MetFree l own_m19 (head1 (Jvm.Cond.code own_m19 jdk_42_method_54_code 1 (some .int) :: ws) (own_r 1 0 0 13)) (fun a U => a = #[(.ref a1)] ∧ Z.Warmed39 U.vm ∧ U.heap = h0) (fun _ _ _ _ _ => True) (fun _ U o U' => ∃ v L, o = .returned v ∧ QlenL Z a1 wC vb kb cs h0 n0 v U'.heap L ∧ FrameEnd U o U' L (own_r 1 0 0 13).cells (own_r 1 0 0 13).slots) := by
 refine MetFree.of_bodySF (plainFor_of_name pn_13) hisR ?_
 intro p e s m args below meth c s₁ Bd hml0 hP hK
 have H : ∀ (i : Nat) {d : Jvm.Cond}, tables_1[i]? = some d → d.before a0 Z = true := fun i _ h => hw _ (own_w i h)
 obtain ⟨rfl, hZ, hh⟩ := hP
 have hx := Bd.exec
 have hby := Bd.bytes
 have hml : c.maxLocals = 1 := hml0
 have hown0 := findClass_of_methodNamed Bd.named
 have hown : s.vm.findClass "java/lang/String" = some m.cls := hown0
 have hnm := (name_of_methodNamed Bd.named Bd.method).1
 have X0 : Stand p l e (own_r 1 0 0 13) s m #[(.ref a1)] below meth c s₁ [] 0 0 := Stand.of_body Bd
 have e0 : s₁.heap = h0 := by rw [← hh, Bd.state]; rfl
 have N0 := Fr.nil n0
 obtain ⟨S0, hS0⟩ : ∃ z, z = s₁.setTop (entryFrame m #[(.ref a1)] 1) := ⟨_, rfl⟩
 have pre0 : own_Go p e below S0 (s₁.setTop (mkF m 0 #[vR a1] [])) := fun t k => by rw [hS0]; exact castTop (ef_lenL m a1) k
 have fin : ∀ t, Steps p.tables e below S0 t → Steps p.tables e below (s₁.setTop (entryFrame m #[(.ref a1)] 1)) t := fun t k => by rw [hS0] at k; exact k
 obtain ⟨oE, oV, oK, oA⟩ := hS
 have pre1 : own_Go p e below S0 (s₁.setTop (mkF m 1 #[vR a1] [(.ref a1)])) := by
  intro t kt
  refine pre0 t ?_
  refine XS.aloadN X0.here hx rfl (hb hby d13_0) rfl rfl ?_
  exact kt
 obtain ⟨T2, X2, e2, st2⟩ := getF X0 hx hZ hown (host := "") (Or.inl (H 77 rfl)) Via.refl e0 oV (g := (own_top pre1)) rfl rfl (hb hby d13_1)
 have pre3 : own_Go p e below S0 (T2.setTop (mkF m 4 #[vR a1] [(.ref vb)])) := by
  intro t kt
  refine pre1 t ?_
  refine st2 _ ?_
  exact kt
 obtain ⟨cl4, Ar4, -, Sz4, Ng4, -, -⟩ := id oA
 have pre5 : own_Go p e below S0 (T2.setTop (mkF m 6 #[vR a1] [(.ref a1), (.int (own_len cs))])) := by
  intro t kt
  refine pre3 t ?_
  refine X2.arraylength hx (by rw [e2]; exact Ar4.1) (State.isArrayOf_alike hZ.alike Ar4.2.1) (g := (own_top pre3)) rfl rfl (hb hby d13_4) _ ?_
  rw [len_of Sz4 Ng4]
  show Steps p.tables e below (T2.setTop (mkF m 5 #[vR a1] [(.int (own_len cs))])) _
  refine XS.aloadN X2.here hx rfl (hb hby d13_5) rfl rfl ?_
  exact kt
 obtain ⟨cq6, kq6, qa6, qb6, qc6⟩ := isOf hZ e2 oE
 obtain ⟨_, _, ⟨T6, L6, k6, n6⟩, -, X6, ⟨Lc6, hQ6, l6, y6, z6⟩, st6⟩ := X2.virtualBack hx (y := own_m17) (z := own_m17) hown (mvT hZ (H 84 rfl)) (mvT hZ (H 85 rfl)) (notFace_of_selects (args := #[]) (mvT hZ (H 87 rfl))) (mvT hZ (H 87 rfl)) (mvT hZ (H 86 rfl)) (by decide) (backOf (W := 1) (rmcoder0 l Z a0 hw [] a1 wC h0 n0 Z0 O0 qC oK) hZ (H 88 rfl) (H 21 rfl) (by decide) (by decide)) qa6 qc6 (g := (own_top pre5)) rfl (by rw [hml]; rfl) (Steps.refl _) (argsL := []) (rest := [(.int (own_len cs))]) (lenOf pd_16 rfl) rfl (by show 2 * 0 + _ ≤ _; exact Nat.le_of_eq rfl) (hb hby d13_6) (fun _ _ => ⟨rfl, e2, (by decide : 0 + 0 ≤ _), (by decide : 0 + 0 ≤ _)⟩)
 dsimp only [Pt.U, Pt.locs, Pt.cells, Pt.slots] at X6 l6 y6 z6 st6 hQ6
 subst l6 y6 z6
 obtain ⟨rfl, Nq6, eq6⟩ := hQ6
 have N6 := Fr.app N0 Nq6
 have pre7 : own_Go p e below S0 (T6.setTop (mkF m 10 #[vR a1] [(.int ((own_len cs) >>> ((0 : Int32) &&& 31)))])) := by
  intro t kt
  refine pre5 t ?_
  refine st6.trans ?_
  show Steps p.tables e below (T6.setTop (mkF m 9 #[vR a1] [(.int 0), (.int (own_len cs))])) _
  refine XS.ishr X6.here hx rfl (hb hby d13_9) rfl ?_
  exact kt
 obtain ⟨fs, hr, hrun, hended, hW, hsame⟩ := X6.leave (v := some (.int ((own_len cs) >>> ((0 : Int32) &&& 31)))) (fun h => by rw [Bd.returns] at h; cases h)
 refine ⟨_, _, fin _ (pre7 _ ?_), hrun, hended, _, _, rfl, ?_, ⟨_, rfl⟩, hW, hsame.mono (by decide) (by decide)⟩
 ·exact retI X6 hx Bd.returns (hb hby d13_10) hr
 ·show QlenL Z a1 wC vb kb cs h0 n0 _ T6.heap _
  rw [eq6]
  exact ⟨(congrArg (fun q => some (Value.int q)) (own_lenL cs)), N6, rfl⟩

theorem d32_0 : decode method_3_code 0 = .ok (.iload_n 0, 1) := by decide +kernel
theorem d32_1 : decode method_3_code 1 = .ok (.bipush 65, 2) := by decide +kernel
theorem d32_3 : decode method_3_code 3 = .ok (.if_icmp .lt 11, 3) := by decide +kernel
theorem d32_6 : decode method_3_code 6 = .ok (.iload_n 0, 1) := by decide +kernel
theorem d32_7 : decode method_3_code 7 = .ok (.bipush 90, 2) := by decide +kernel
theorem d32_9 : decode method_3_code 9 = .ok (.if_icmp .gt 5, 3) := by decide +kernel
theorem d32_12 : decode method_3_code 12 = .ok (.iconst 1, 1) := by decide +kernel
theorem d32_13 : decode method_3_code 13 = .ok (.ireturn, 1) := by decide +kernel
theorem d32_14 : decode method_3_code 14 = .ok (.iload_n 0, 1) := by decide +kernel
theorem d32_15 : decode method_3_code 15 = .ok (.bipush 97, 2) := by decide +kernel
theorem d32_17 : decode method_3_code 17 = .ok (.if_icmp .lt 11, 3) := by decide +kernel
theorem d32_20 : decode method_3_code 20 = .ok (.iload_n 0, 1) := by decide +kernel
theorem d32_21 : decode method_3_code 21 = .ok (.bipush 122, 2) := by decide +kernel
theorem d32_23 : decode method_3_code 23 = .ok (.if_icmp .gt 5, 3) := by decide +kernel
theorem d32_26 : decode method_3_code 26 = .ok (.iconst 1, 1) := by decide +kernel
theorem d32_27 : decode method_3_code 27 = .ok (.ireturn, 1) := by decide +kernel
theorem d32_28 : decode method_3_code 28 = .ok (.iload_n 0, 1) := by decide +kernel
theorem d32_29 : decode method_3_code 29 = .ok (.bipush 48, 2) := by decide +kernel
theorem d32_31 : decode method_3_code 31 = .ok (.if_icmp .lt 11, 3) := by decide +kernel
theorem d32_34 : decode method_3_code 34 = .ok (.iload_n 0, 1) := by decide +kernel
theorem d32_35 : decode method_3_code 35 = .ok (.bipush 57, 2) := by decide +kernel
theorem d32_37 : decode method_3_code 37 = .ok (.if_icmp .gt 5, 3) := by decide +kernel
theorem d32_40 : decode method_3_code 40 = .ok (.iconst 1, 1) := by decide +kernel
theorem d32_41 : decode method_3_code 41 = .ok (.ireturn, 1) := by decide +kernel
theorem d32_42 : decode method_3_code 42 = .ok (.iload_n 0, 1) := by decide +kernel
theorem d32_43 : decode method_3_code 43 = .ok (.bipush 45, 2) := by decide +kernel
theorem d32_45 : decode method_3_code 45 = .ok (.if_icmp .eq 21, 3) := by decide +kernel
theorem d32_48 : decode method_3_code 48 = .ok (.iload_n 0, 1) := by decide +kernel
theorem d32_49 : decode method_3_code 49 = .ok (.bipush 95, 2) := by decide +kernel
theorem d32_51 : decode method_3_code 51 = .ok (.if_icmp .eq 15, 3) := by decide +kernel
theorem d32_54 : decode method_3_code 54 = .ok (.iload_n 0, 1) := by decide +kernel
theorem d32_55 : decode method_3_code 55 = .ok (.bipush 46, 2) := by decide +kernel
theorem d32_57 : decode method_3_code 57 = .ok (.if_icmp .eq 9, 3) := by decide +kernel
theorem d32_60 : decode method_3_code 60 = .ok (.iload_n 0, 1) := by decide +kernel
theorem d32_61 : decode method_3_code 61 = .ok (.bipush 126, 2) := by decide +kernel
theorem d32_63 : decode method_3_code 63 = .ok (.if_icmp .ne 7, 3) := by decide +kernel
theorem d32_66 : decode method_3_code 66 = .ok (.iconst 1, 1) := by decide +kernel
theorem d32_67 : decode method_3_code 67 = .ok (.goto 4, 3) := by decide +kernel
theorem d32_70 : decode method_3_code 70 = .ok (.iconst 0, 1) := by decide +kernel
theorem d32_71 : decode method_3_code 71 = .ok (.ireturn, 1) := by decide +kernel
theorem pn_32 : plainName "com/example/permgrid/permgrid/PercentEncodingEncodePinLaw" = true := by first | (simp [plainName, overriddenIn]; done) | decide +kernel
theorem ef_32 (m : MethodId) (x0 : Int32) : entryFrame m #[(.int x0)] 1 = mkF m 0 #[vI x0] [] := by first | (simp [entryFrame, mkF, argsToLocals, Value.category]; done) | rfl
def own_unr (p1 : Int32) : Int32 := (if (¬ p1 < (65 : Int32) ∧ ¬ (90 : Int32) < p1) then (1 : Int32) else (if (¬ p1 < (97 : Int32) ∧ ¬ (122 : Int32) < p1) then (1 : Int32) else (if (¬ p1 < (48 : Int32) ∧ ¬ (57 : Int32) < p1) then (1 : Int32) else (if p1 = (45 : Int32) then (1 : Int32) else (if p1 = (95 : Int32) then (1 : Int32) else (if p1 = (46 : Int32) then (1 : Int32) else (if p1 = (126 : Int32) then (1 : Int32) else (0 : Int32))))))))
def Q32 (Z : State) (p1 : Int32) (h0 : Heap) (n0 : Nat) (v : Option Value) (h : Heap) (L : List Loc) : Prop := v = (some (.int (own_unr p1))) ∧ Fr n0 L ∧ h = h0
set_option maxRecDepth 65536 in
set_option maxHeartbeats 40000000 in
theorem rm32 (l : Launch) (Z : State) (a0 : Array Value) (hw : ∀ d ∈ tables_1, d.before a0 Z = true) (ws : List Jvm.Cond) (p1 : Int32) (h0 : Heap) (n0 : Nat) (Z0 : n0 ≤ h0.size) :
  MetFree l own_m3 (head1 (Jvm.Cond.code own_m3 method_3_code 1 (some .boolean) :: ws) (own_r 0 0 0 0)) (fun a U => a = #[(.int p1)] ∧ Z.Warmed39 U.vm ∧ U.heap = h0) (fun _ _ _ _ _ => True) (fun _ U o U' => ∃ v L, o = .returned v ∧ Q32 Z p1 h0 n0 v U'.heap L ∧ FrameEnd U o U' L (own_r 0 0 0 0).cells (own_r 0 0 0 0).slots) := by
 refine MetFree.of_bodySF (plainFor_of_name pn_32) hisR ?_
 intro p e s m args below meth c s₁ Bd hml0 hP hK
 have H : ∀ (i : Nat) {d : Jvm.Cond}, tables_1[i]? = some d → d.before a0 Z = true := fun i _ h => hw _ (own_w i h)
 obtain ⟨rfl, hZ, hh⟩ := hP
 have hx := Bd.exec
 have hby := Bd.bytes
 have hml : c.maxLocals = 1 := hml0
 have hown0 := findClass_of_methodNamed Bd.named
 have hown : s.vm.findClass "com/example/permgrid/permgrid/PercentEncodingEncodePinLaw" = some m.cls := hown0
 have hnm := (name_of_methodNamed Bd.named Bd.method).1
 have X0 : Stand p l e (own_r 0 0 0 0) s m #[(.int p1)] below meth c s₁ [] 0 0 := Stand.of_body Bd
 have e0 : s₁.heap = h0 := by rw [← hh, Bd.state]; rfl
 have N0 := Fr.nil n0
 obtain ⟨S0, hS0⟩ : ∃ z, z = s₁.setTop (entryFrame m #[(.int p1)] 1) := ⟨_, rfl⟩
 have pre0 : own_Go p e below S0 (s₁.setTop (mkF m 0 #[vI p1] [])) := fun t k => by rw [hS0]; exact castTop (ef_32 m p1) k
 have fin : ∀ t, Steps p.tables e below S0 t → Steps p.tables e below (s₁.setTop (entryFrame m #[(.int p1)] 1)) t := fun t k => by rw [hS0] at k; exact k
 by_cases hA1 : (¬ p1 < (65 : Int32) ∧ ¬ (90 : Int32) < p1)
 ·have pre2 : own_Go p e below S0 (s₁.setTop (mkF m 13 #[vI p1] [(.int 1)])) := by
   intro t kt
   refine pre0 t ?_
   refine XS.iloadN X0.here hx rfl (hb hby d32_0) rfl ?_
   refine XS.bipush X0.here hx rfl (hb hby d32_1) ?_
   refine XS.icmpNo X0.here hx rfl (hb hby d32_3) rfl (flt hA1.1).1 ?_
   refine XS.iloadN X0.here hx rfl (hb hby d32_6) rfl ?_
   refine XS.bipush X0.here hx rfl (hb hby d32_7) ?_
   refine XS.icmpNo X0.here hx rfl (hb hby d32_9) rfl (flt hA1.2).2.2.1 ?_
   refine XS.iconst X0.here hx rfl (hb hby d32_12) ?_
   exact kt
  obtain ⟨fs, hr, hrun, hended, hW, hsame⟩ := X0.leave (v := some (.int 1)) (fun h => by rw [Bd.returns] at h; cases h)
  refine ⟨_, _, fin _ (pre2 _ ?_), hrun, hended, _, _, rfl, ?_, ⟨_, rfl⟩, hW, hsame.mono (by decide) (by decide)⟩
  ·exact retN X0 hx (t := .boolean) Bd.returns (by simp) (hb hby d32_13) hr
  ·show Q32 Z p1 h0 n0 _ s₁.heap _
   rw [e0]
   exact ⟨(by show some _ = some _; rw [own_unr, if_pos hA1]), N0, rfl⟩
 ·have pre3 : own_Go p e below S0 (s₁.setTop (mkF m 14 #[vI p1] [])) := by
   have pre5 : own_Go p e below S0 (s₁.setTop (mkF m 3 #[vI p1] [(.int 65), (.int p1)])) := by
    intro t kt
    refine pre0 t ?_
    refine XS.iloadN X0.here hx rfl (hb hby d32_0) rfl ?_
    refine XS.bipush X0.here hx rfl (hb hby d32_1) ?_
    exact kt
   by_cases hc4 : p1 < (65 : Int32)
   ·have pre6 : own_Go p e below S0 (s₁.setTop (mkF m 14 #[vI p1] [])) := by
     intro t kt
     refine pre5 t ?_
     refine XS.icmpYes X0.here hx rfl (pc0 := 3) (pc' := 14) rfl (hb hby d32_3) rfl (tlt hc4).1 (by decide) (by decide) ?_
     exact kt
    exact pre6
   ·have pre7 : own_Go p e below S0 (s₁.setTop (mkF m 14 #[vI p1] [])) := by
     intro t kt
     refine pre5 t ?_
     refine XS.icmpNo X0.here hx rfl (hb hby d32_3) rfl (flt hc4).1 ?_
     refine XS.iloadN X0.here hx rfl (hb hby d32_6) rfl ?_
     refine XS.bipush X0.here hx rfl (hb hby d32_7) ?_
     refine XS.icmpYes X0.here hx rfl (pc0 := 9) (pc' := 14) rfl (hb hby d32_9) rfl (tlt (Decidable.byContradiction fun q => hA1 ⟨hc4, q⟩)).2.2.1 (by decide) (by decide) ?_
     exact kt
    exact pre7
  by_cases hA8 : (¬ p1 < (97 : Int32) ∧ ¬ (122 : Int32) < p1)
  ·have pre9 : own_Go p e below S0 (s₁.setTop (mkF m 27 #[vI p1] [(.int 1)])) := by
    intro t kt
    refine pre3 t ?_
    refine XS.iloadN X0.here hx rfl (hb hby d32_14) rfl ?_
    refine XS.bipush X0.here hx rfl (hb hby d32_15) ?_
    refine XS.icmpNo X0.here hx rfl (hb hby d32_17) rfl (flt hA8.1).1 ?_
    refine XS.iloadN X0.here hx rfl (hb hby d32_20) rfl ?_
    refine XS.bipush X0.here hx rfl (hb hby d32_21) ?_
    refine XS.icmpNo X0.here hx rfl (hb hby d32_23) rfl (flt hA8.2).2.2.1 ?_
    refine XS.iconst X0.here hx rfl (hb hby d32_26) ?_
    exact kt
   obtain ⟨fs, hr, hrun, hended, hW, hsame⟩ := X0.leave (v := some (.int 1)) (fun h => by rw [Bd.returns] at h; cases h)
   refine ⟨_, _, fin _ (pre9 _ ?_), hrun, hended, _, _, rfl, ?_, ⟨_, rfl⟩, hW, hsame.mono (by decide) (by decide)⟩
   ·exact retN X0 hx (t := .boolean) Bd.returns (by simp) (hb hby d32_27) hr
   ·show Q32 Z p1 h0 n0 _ s₁.heap _
    rw [e0]
    exact ⟨(by show some _ = some _; rw [own_unr, if_neg hA1, if_pos hA8]), N0, rfl⟩
  ·have pre10 : own_Go p e below S0 (s₁.setTop (mkF m 28 #[vI p1] [])) := by
    have pre12 : own_Go p e below S0 (s₁.setTop (mkF m 17 #[vI p1] [(.int 97), (.int p1)])) := by
     intro t kt
     refine pre3 t ?_
     refine XS.iloadN X0.here hx rfl (hb hby d32_14) rfl ?_
     refine XS.bipush X0.here hx rfl (hb hby d32_15) ?_
     exact kt
    by_cases hc11 : p1 < (97 : Int32)
    ·have pre13 : own_Go p e below S0 (s₁.setTop (mkF m 28 #[vI p1] [])) := by
      intro t kt
      refine pre12 t ?_
      refine XS.icmpYes X0.here hx rfl (pc0 := 17) (pc' := 28) rfl (hb hby d32_17) rfl (tlt hc11).1 (by decide) (by decide) ?_
      exact kt
     exact pre13
    ·have pre14 : own_Go p e below S0 (s₁.setTop (mkF m 28 #[vI p1] [])) := by
      intro t kt
      refine pre12 t ?_
      refine XS.icmpNo X0.here hx rfl (hb hby d32_17) rfl (flt hc11).1 ?_
      refine XS.iloadN X0.here hx rfl (hb hby d32_20) rfl ?_
      refine XS.bipush X0.here hx rfl (hb hby d32_21) ?_
      refine XS.icmpYes X0.here hx rfl (pc0 := 23) (pc' := 28) rfl (hb hby d32_23) rfl (tlt (Decidable.byContradiction fun q => hA8 ⟨hc11, q⟩)).2.2.1 (by decide) (by decide) ?_
      exact kt
     exact pre14
   by_cases hA15 : (¬ p1 < (48 : Int32) ∧ ¬ (57 : Int32) < p1)
   ·have pre16 : own_Go p e below S0 (s₁.setTop (mkF m 41 #[vI p1] [(.int 1)])) := by
     intro t kt
     refine pre10 t ?_
     refine XS.iloadN X0.here hx rfl (hb hby d32_28) rfl ?_
     refine XS.bipush X0.here hx rfl (hb hby d32_29) ?_
     refine XS.icmpNo X0.here hx rfl (hb hby d32_31) rfl (flt hA15.1).1 ?_
     refine XS.iloadN X0.here hx rfl (hb hby d32_34) rfl ?_
     refine XS.bipush X0.here hx rfl (hb hby d32_35) ?_
     refine XS.icmpNo X0.here hx rfl (hb hby d32_37) rfl (flt hA15.2).2.2.1 ?_
     refine XS.iconst X0.here hx rfl (hb hby d32_40) ?_
     exact kt
    obtain ⟨fs, hr, hrun, hended, hW, hsame⟩ := X0.leave (v := some (.int 1)) (fun h => by rw [Bd.returns] at h; cases h)
    refine ⟨_, _, fin _ (pre16 _ ?_), hrun, hended, _, _, rfl, ?_, ⟨_, rfl⟩, hW, hsame.mono (by decide) (by decide)⟩
    ·exact retN X0 hx (t := .boolean) Bd.returns (by simp) (hb hby d32_41) hr
    ·show Q32 Z p1 h0 n0 _ s₁.heap _
     rw [e0]
     exact ⟨(by show some _ = some _; rw [own_unr, if_neg hA1, if_neg hA8, if_pos hA15]), N0, rfl⟩
   ·have pre17 : own_Go p e below S0 (s₁.setTop (mkF m 42 #[vI p1] [])) := by
     have pre19 : own_Go p e below S0 (s₁.setTop (mkF m 31 #[vI p1] [(.int 48), (.int p1)])) := by
      intro t kt
      refine pre10 t ?_
      refine XS.iloadN X0.here hx rfl (hb hby d32_28) rfl ?_
      refine XS.bipush X0.here hx rfl (hb hby d32_29) ?_
      exact kt
     by_cases hc18 : p1 < (48 : Int32)
     ·have pre20 : own_Go p e below S0 (s₁.setTop (mkF m 42 #[vI p1] [])) := by
       intro t kt
       refine pre19 t ?_
       refine XS.icmpYes X0.here hx rfl (pc0 := 31) (pc' := 42) rfl (hb hby d32_31) rfl (tlt hc18).1 (by decide) (by decide) ?_
       exact kt
      exact pre20
     ·have pre21 : own_Go p e below S0 (s₁.setTop (mkF m 42 #[vI p1] [])) := by
       intro t kt
       refine pre19 t ?_
       refine XS.icmpNo X0.here hx rfl (hb hby d32_31) rfl (flt hc18).1 ?_
       refine XS.iloadN X0.here hx rfl (hb hby d32_34) rfl ?_
       refine XS.bipush X0.here hx rfl (hb hby d32_35) ?_
       refine XS.icmpYes X0.here hx rfl (pc0 := 37) (pc' := 42) rfl (hb hby d32_37) rfl (tlt (Decidable.byContradiction fun q => hA15 ⟨hc18, q⟩)).2.2.1 (by decide) (by decide) ?_
       exact kt
      exact pre21
    have pre23 : own_Go p e below S0 (s₁.setTop (mkF m 45 #[vI p1] [(.int 45), (.int p1)])) := by
     intro t kt
     refine pre17 t ?_
     refine XS.iloadN X0.here hx rfl (hb hby d32_42) rfl ?_
     refine XS.bipush X0.here hx rfl (hb hby d32_43) ?_
     exact kt
    by_cases hc22 : p1 = (45 : Int32)
    ·have pre24 : own_Go p e below S0 (s₁.setTop (mkF m 71 #[vI p1] [(.int 1)])) := by
      intro t kt
      refine pre23 t ?_
      refine XS.icmpYes X0.here hx rfl (pc0 := 45) (pc' := 66) rfl (hb hby d32_45) rfl (teq hc22).1 (by decide) (by decide) ?_
      refine XS.iconst X0.here hx rfl (hb hby d32_66) ?_
      refine XS.goto X0.here hx rfl (pc0 := 67) (pc' := 71) rfl (hb hby d32_67) (by decide) (by decide) ?_
      exact kt
     obtain ⟨fs, hr, hrun, hended, hW, hsame⟩ := X0.leave (v := some (.int 1)) (fun h => by rw [Bd.returns] at h; cases h)
     refine ⟨_, _, fin _ (pre24 _ ?_), hrun, hended, _, _, rfl, ?_, ⟨_, rfl⟩, hW, hsame.mono (by decide) (by decide)⟩
     ·exact retN X0 hx (t := .boolean) Bd.returns (by simp) (hb hby d32_71) hr
     ·show Q32 Z p1 h0 n0 _ s₁.heap _
      rw [e0]
      exact ⟨(by show some _ = some _; rw [own_unr, if_neg hA1, if_neg hA8, if_neg hA15, if_pos hc22]), N0, rfl⟩
    ·have pre26 : own_Go p e below S0 (s₁.setTop (mkF m 51 #[vI p1] [(.int 95), (.int p1)])) := by
      intro t kt
      refine pre23 t ?_
      refine XS.icmpNo X0.here hx rfl (hb hby d32_45) rfl (feq hc22).1 ?_
      refine XS.iloadN X0.here hx rfl (hb hby d32_48) rfl ?_
      refine XS.bipush X0.here hx rfl (hb hby d32_49) ?_
      exact kt
     by_cases hc25 : p1 = (95 : Int32)
     ·have pre27 : own_Go p e below S0 (s₁.setTop (mkF m 71 #[vI p1] [(.int 1)])) := by
       intro t kt
       refine pre26 t ?_
       refine XS.icmpYes X0.here hx rfl (pc0 := 51) (pc' := 66) rfl (hb hby d32_51) rfl (teq hc25).1 (by decide) (by decide) ?_
       refine XS.iconst X0.here hx rfl (hb hby d32_66) ?_
       refine XS.goto X0.here hx rfl (pc0 := 67) (pc' := 71) rfl (hb hby d32_67) (by decide) (by decide) ?_
       exact kt
      obtain ⟨fs, hr, hrun, hended, hW, hsame⟩ := X0.leave (v := some (.int 1)) (fun h => by rw [Bd.returns] at h; cases h)
      refine ⟨_, _, fin _ (pre27 _ ?_), hrun, hended, _, _, rfl, ?_, ⟨_, rfl⟩, hW, hsame.mono (by decide) (by decide)⟩
      ·exact retN X0 hx (t := .boolean) Bd.returns (by simp) (hb hby d32_71) hr
      ·show Q32 Z p1 h0 n0 _ s₁.heap _
       rw [e0]
       exact ⟨(by show some _ = some _; rw [own_unr, if_neg hA1, if_neg hA8, if_neg hA15, if_neg hc22, if_pos hc25]), N0, rfl⟩
     ·have pre29 : own_Go p e below S0 (s₁.setTop (mkF m 57 #[vI p1] [(.int 46), (.int p1)])) := by
       intro t kt
       refine pre26 t ?_
       refine XS.icmpNo X0.here hx rfl (hb hby d32_51) rfl (feq hc25).1 ?_
       refine XS.iloadN X0.here hx rfl (hb hby d32_54) rfl ?_
       refine XS.bipush X0.here hx rfl (hb hby d32_55) ?_
       exact kt
      by_cases hc28 : p1 = (46 : Int32)
      ·have pre30 : own_Go p e below S0 (s₁.setTop (mkF m 71 #[vI p1] [(.int 1)])) := by
        intro t kt
        refine pre29 t ?_
        refine XS.icmpYes X0.here hx rfl (pc0 := 57) (pc' := 66) rfl (hb hby d32_57) rfl (teq hc28).1 (by decide) (by decide) ?_
        refine XS.iconst X0.here hx rfl (hb hby d32_66) ?_
        refine XS.goto X0.here hx rfl (pc0 := 67) (pc' := 71) rfl (hb hby d32_67) (by decide) (by decide) ?_
        exact kt
       obtain ⟨fs, hr, hrun, hended, hW, hsame⟩ := X0.leave (v := some (.int 1)) (fun h => by rw [Bd.returns] at h; cases h)
       refine ⟨_, _, fin _ (pre30 _ ?_), hrun, hended, _, _, rfl, ?_, ⟨_, rfl⟩, hW, hsame.mono (by decide) (by decide)⟩
       ·exact retN X0 hx (t := .boolean) Bd.returns (by simp) (hb hby d32_71) hr
       ·show Q32 Z p1 h0 n0 _ s₁.heap _
        rw [e0]
        exact ⟨(by show some _ = some _; rw [own_unr, if_neg hA1, if_neg hA8, if_neg hA15, if_neg hc22, if_neg hc25, if_pos hc28]), N0, rfl⟩
      ·have pre32 : own_Go p e below S0 (s₁.setTop (mkF m 63 #[vI p1] [(.int 126), (.int p1)])) := by
        intro t kt
        refine pre29 t ?_
        refine XS.icmpNo X0.here hx rfl (hb hby d32_57) rfl (feq hc28).1 ?_
        refine XS.iloadN X0.here hx rfl (hb hby d32_60) rfl ?_
        refine XS.bipush X0.here hx rfl (hb hby d32_61) ?_
        exact kt
       by_cases hc31 : p1 = (126 : Int32)
       ·have pre33 : own_Go p e below S0 (s₁.setTop (mkF m 71 #[vI p1] [(.int 1)])) := by
         intro t kt
         refine pre32 t ?_
         refine XS.icmpNo X0.here hx rfl (hb hby d32_63) rfl (teq hc31).2 ?_
         refine XS.iconst X0.here hx rfl (hb hby d32_66) ?_
         refine XS.goto X0.here hx rfl (pc0 := 67) (pc' := 71) rfl (hb hby d32_67) (by decide) (by decide) ?_
         exact kt
        obtain ⟨fs, hr, hrun, hended, hW, hsame⟩ := X0.leave (v := some (.int 1)) (fun h => by rw [Bd.returns] at h; cases h)
        refine ⟨_, _, fin _ (pre33 _ ?_), hrun, hended, _, _, rfl, ?_, ⟨_, rfl⟩, hW, hsame.mono (by decide) (by decide)⟩
        ·exact retN X0 hx (t := .boolean) Bd.returns (by simp) (hb hby d32_71) hr
        ·show Q32 Z p1 h0 n0 _ s₁.heap _
         rw [e0]
         exact ⟨(by show some _ = some _; rw [own_unr, if_neg hA1, if_neg hA8, if_neg hA15, if_neg hc22, if_neg hc25, if_neg hc28, if_pos hc31]), N0, rfl⟩
       ·have pre34 : own_Go p e below S0 (s₁.setTop (mkF m 71 #[vI p1] [(.int 0)])) := by
         intro t kt
         refine pre32 t ?_
         refine XS.icmpYes X0.here hx rfl (pc0 := 63) (pc' := 70) rfl (hb hby d32_63) rfl (feq hc31).2 (by decide) (by decide) ?_
         refine XS.iconst X0.here hx rfl (hb hby d32_70) ?_
         exact kt
        obtain ⟨fs, hr, hrun, hended, hW, hsame⟩ := X0.leave (v := some (.int 0)) (fun h => by rw [Bd.returns] at h; cases h)
        refine ⟨_, _, fin _ (pre34 _ ?_), hrun, hended, _, _, rfl, ?_, ⟨_, rfl⟩, hW, hsame.mono (by decide) (by decide)⟩
        ·exact retN X0 hx (t := .boolean) Bd.returns (by simp) (hb hby d32_71) hr
        ·show Q32 Z p1 h0 n0 _ s₁.heap _
         rw [e0]
         exact ⟨(by show some _ = some _; rw [own_unr, if_neg hA1, if_neg hA8, if_neg hA15, if_neg hc22, if_neg hc25, if_neg hc28, if_neg hc31]), N0, rfl⟩

theorem d33_0 : decode method_4_code 0 = .ok (.iload_n 0, 1) := by decide +kernel
theorem d33_1 : decode method_4_code 1 = .ok (.bipush 10, 2) := by decide +kernel
theorem d33_3 : decode method_4_code 3 = .ok (.if_icmp .ge 9, 3) := by decide +kernel
theorem d33_6 : decode method_4_code 6 = .ok (.bipush 48, 2) := by decide +kernel
theorem d33_8 : decode method_4_code 8 = .ok (.iload_n 0, 1) := by decide +kernel
theorem d33_9 : decode method_4_code 9 = .ok (.iadd, 1) := by decide +kernel
theorem d33_10 : decode method_4_code 10 = .ok (.i2c, 1) := by decide +kernel
theorem d33_11 : decode method_4_code 11 = .ok (.ireturn, 1) := by decide +kernel
theorem d33_12 : decode method_4_code 12 = .ok (.bipush 65, 2) := by decide +kernel
theorem d33_14 : decode method_4_code 14 = .ok (.iload_n 0, 1) := by decide +kernel
theorem d33_15 : decode method_4_code 15 = .ok (.iadd, 1) := by decide +kernel
theorem d33_16 : decode method_4_code 16 = .ok (.bipush 10, 2) := by decide +kernel
theorem d33_18 : decode method_4_code 18 = .ok (.isub, 1) := by decide +kernel
theorem d33_19 : decode method_4_code 19 = .ok (.i2c, 1) := by decide +kernel
theorem d33_20 : decode method_4_code 20 = .ok (.ireturn, 1) := by decide +kernel
theorem pn_33 : plainName "com/example/permgrid/permgrid/PercentEncodingEncodePinLaw" = true := by first | (simp [plainName, overriddenIn]; done) | decide +kernel
theorem ef_33 (m : MethodId) (x0 : Int32) : entryFrame m #[(.int x0)] 1 = mkF m 0 #[vI x0] [] := by first | (simp [entryFrame, mkF, argsToLocals, Value.category]; done) | rfl
def own_hx (p1 : Int32) : Int32 := (if p1 < (10 : Int32) then (nar .char (((48 : Int32) + p1).toUInt32.toUInt16.toUInt32.toInt32)) else (nar .char ((((65 : Int32) + p1) - (10 : Int32)).toUInt32.toUInt16.toUInt32.toInt32)))
def Q33 (Z : State) (p1 : Int32) (h0 : Heap) (n0 : Nat) (v : Option Value) (h : Heap) (L : List Loc) : Prop := v = (some (.int (own_hx p1))) ∧ Fr n0 L ∧ h = h0
set_option maxRecDepth 65536 in
set_option maxHeartbeats 40000000 in
theorem rm33 (l : Launch) (Z : State) (a0 : Array Value) (hw : ∀ d ∈ tables_1, d.before a0 Z = true) (ws : List Jvm.Cond) (p1 : Int32) (h0 : Heap) (n0 : Nat) (Z0 : n0 ≤ h0.size) :
  MetFree l own_m1 (head1 (Jvm.Cond.code own_m1 method_4_code 1 (some .char) :: ws) (own_r 0 0 0 0)) (fun a U => a = #[(.int p1)] ∧ Z.Warmed39 U.vm ∧ U.heap = h0) (fun _ _ _ _ _ => True) (fun _ U o U' => ∃ v L, o = .returned v ∧ Q33 Z p1 h0 n0 v U'.heap L ∧ FrameEnd U o U' L (own_r 0 0 0 0).cells (own_r 0 0 0 0).slots) := by
 refine MetFree.of_bodySF (plainFor_of_name pn_33) hisR ?_
 intro p e s m args below meth c s₁ Bd hml0 hP hK
 have H : ∀ (i : Nat) {d : Jvm.Cond}, tables_1[i]? = some d → d.before a0 Z = true := fun i _ h => hw _ (own_w i h)
 obtain ⟨rfl, hZ, hh⟩ := hP
 have hx := Bd.exec
 have hby := Bd.bytes
 have hml : c.maxLocals = 1 := hml0
 have hown0 := findClass_of_methodNamed Bd.named
 have hown : s.vm.findClass "com/example/permgrid/permgrid/PercentEncodingEncodePinLaw" = some m.cls := hown0
 have hnm := (name_of_methodNamed Bd.named Bd.method).1
 have X0 : Stand p l e (own_r 0 0 0 0) s m #[(.int p1)] below meth c s₁ [] 0 0 := Stand.of_body Bd
 have e0 : s₁.heap = h0 := by rw [← hh, Bd.state]; rfl
 have N0 := Fr.nil n0
 obtain ⟨S0, hS0⟩ : ∃ z, z = s₁.setTop (entryFrame m #[(.int p1)] 1) := ⟨_, rfl⟩
 have pre0 : own_Go p e below S0 (s₁.setTop (mkF m 0 #[vI p1] [])) := fun t k => by rw [hS0]; exact castTop (ef_33 m p1) k
 have fin : ∀ t, Steps p.tables e below S0 t → Steps p.tables e below (s₁.setTop (entryFrame m #[(.int p1)] 1)) t := fun t k => by rw [hS0] at k; exact k
 have pre2 : own_Go p e below S0 (s₁.setTop (mkF m 3 #[vI p1] [(.int 10), (.int p1)])) := by
  intro t kt
  refine pre0 t ?_
  refine XS.iloadN X0.here hx rfl (hb hby d33_0) rfl ?_
  refine XS.bipush X0.here hx rfl (hb hby d33_1) ?_
  exact kt
 by_cases hc1 : p1 < (10 : Int32)
 ·have pre3 : own_Go p e below S0 (s₁.setTop (mkF m 11 #[vI p1] [(.int (((48 : Int32) + p1).toUInt32.toUInt16.toUInt32.toInt32))])) := by
   intro t kt
   refine pre2 t ?_
   refine XS.icmpNo X0.here hx rfl (hb hby d33_3) rfl (tlt hc1).2.1 ?_
   refine XS.bipush X0.here hx rfl (hb hby d33_6) ?_
   refine XS.iloadN X0.here hx rfl (hb hby d33_8) rfl ?_
   refine XS.iadd X0.here hx rfl (hb hby d33_9) rfl ?_
   refine XS.i2c X0.here hx rfl (hb hby d33_10) rfl ?_
   exact kt
  obtain ⟨fs, hr, hrun, hended, hW, hsame⟩ := X0.leave (v := some (.int (nar .char (((48 : Int32) + p1).toUInt32.toUInt16.toUInt32.toInt32)))) (fun h => by rw [Bd.returns] at h; cases h)
  refine ⟨_, _, fin _ (pre3 _ ?_), hrun, hended, _, _, rfl, ?_, ⟨_, rfl⟩, hW, hsame.mono (by decide) (by decide)⟩
  ·exact retN X0 hx (t := .char) Bd.returns (by simp) (hb hby d33_11) hr
  ·show Q33 Z p1 h0 n0 _ s₁.heap _
   rw [e0]
   exact ⟨(by show some _ = some _; rw [own_hx, if_pos hc1]), N0, rfl⟩
 ·have pre4 : own_Go p e below S0 (s₁.setTop (mkF m 20 #[vI p1] [(.int ((((65 : Int32) + p1) - (10 : Int32)).toUInt32.toUInt16.toUInt32.toInt32))])) := by
   intro t kt
   refine pre2 t ?_
   refine XS.icmpYes X0.here hx rfl (pc0 := 3) (pc' := 12) rfl (hb hby d33_3) rfl (flt hc1).2.1 (by decide) (by decide) ?_
   refine XS.bipush X0.here hx rfl (hb hby d33_12) ?_
   refine XS.iloadN X0.here hx rfl (hb hby d33_14) rfl ?_
   refine XS.iadd X0.here hx rfl (hb hby d33_15) rfl ?_
   refine XS.bipush X0.here hx rfl (hb hby d33_16) ?_
   refine XS.isub X0.here hx rfl (hb hby d33_18) rfl ?_
   refine XS.i2c X0.here hx rfl (hb hby d33_19) rfl ?_
   exact kt
  obtain ⟨fs, hr, hrun, hended, hW, hsame⟩ := X0.leave (v := some (.int (nar .char ((((65 : Int32) + p1) - (10 : Int32)).toUInt32.toUInt16.toUInt32.toInt32)))) (fun h => by rw [Bd.returns] at h; cases h)
  refine ⟨_, _, fin _ (pre4 _ ?_), hrun, hended, _, _, rfl, ?_, ⟨_, rfl⟩, hW, hsame.mono (by decide) (by decide)⟩
  ·exact retN X0 hx (t := .char) Bd.returns (by simp) (hb hby d33_20) hr
  ·show Q33 Z p1 h0 n0 _ s₁.heap _
   rw [e0]
   exact ⟨(by show some _ = some _; rw [own_hx, if_neg hc1]), N0, rfl⟩

def own_cb (u : Int32) : Int32 := ((u &&& (255 : Int32)).toUInt32.toUInt16.toUInt32.toInt32)
theorem own_cbM (u : Int32) : own_cb u = u &&& 255 := by
  have h := c_mask u 255 8 (by decide) (by decide)
  exact own_i2c _ (by omega) (by omega)
theorem own_cbR (u : Int32) : 0 ≤ (own_cb u).toInt ∧ (own_cb u).toInt < 256 := by
  have h := c_mask u 255 8 (by decide) (by decide)
  rw [own_cbM]; omega
theorem own_cbE (a : Int32) : own_cb (nar .byte (a.toInt8.toInt32)) = a &&& 255 := by
  have h1 := own_narByte (a.toInt8.toInt32)
  have h2 := (c_i2b a).1
  have h3 := c_mask (nar .byte (a.toInt8.toInt32)) 255 8 (by decide) (by decide)
  have h4 := c_mask a 255 8 (by decide) (by decide)
  rw [own_cbM]
  exact Int32.toInt_inj.mp (by omega)
theorem own_canR {x : Int32} (h : x.toInt < 256) : ¬ own_can x = 0 := by
  have n : ¬ (255 : Int32) < x := by rw [Int32.lt_iff_toInt_lt, show (255 : Int32).toInt = 255 from rfl]; omega
  unfold own_can
  rw [if_neg n]
  decide
theorem own_lcR (u : Int32) : 0 ≤ (own_lc u).toInt ∧ (own_lc u).toInt < 256 := by
  have h := c_mask u 255 8 (by decide) (by decide)
  unfold own_lc
  rw [own_i2c _ (by omega) (by omega), own_narChar _ (by omega) (by omega)]
  omega
def own_hexb (i : Int32) : Int32 := if i < 10 then 48 + i else 55 + i
def own_hi (u : Int32) : Int32 := own_cb u >>> ((4 : Int32) &&& 31)
def own_lo (u : Int32) : Int32 := own_cb u &&& (15 : Int32)
theorem own_hiR (u : Int32) : 0 ≤ (own_hi u).toInt ∧ (own_hi u).toInt < 16 := by
  have h := own_cbR u
  have k := c_ishr (own_cb u) 4 4 (by decide)
  unfold own_hi
  omega
theorem own_loR (u : Int32) : 0 ≤ (own_lo u).toInt ∧ (own_lo u).toInt < 16 := by
  have k := c_mask (own_cb u) 15 4 (by decide) (by decide)
  unfold own_lo
  omega
theorem own_ix16 {i : Int32} (h : 0 ≤ i.toInt ∧ i.toInt < 16) : ¬ i < (0 : Int32) ∧ i < (16 : Int32) := by
  rw [Int32.lt_iff_toInt_lt, Int32.lt_iff_toInt_lt, show (0 : Int32).toInt = 0 from rfl, show (16 : Int32).toInt = 16 from rfl]; omega
theorem own_16 {i : Int32} (h : 0 ≤ i.toInt ∧ i.toInt < 16) : i = 0 ∨ i = 1 ∨ i = 2 ∨ i = 3 ∨ i = 4 ∨ i = 5 ∨ i = 6 ∨ i = 7 ∨ i = 8 ∨ i = 9 ∨ i = 10 ∨ i = 11 ∨ i = 12 ∨ i = 13 ∨ i = 14 ∨ i = 15 := by
  have he : ∀ a b : Int32, a = b ↔ a.toInt = b.toInt := fun a b => Int32.toInt_inj.symm
  simp only [he, show (0 : Int32).toInt = 0 from rfl, show (1 : Int32).toInt = 1 from rfl, show (2 : Int32).toInt = 2 from rfl, show (3 : Int32).toInt = 3 from rfl, show (4 : Int32).toInt = 4 from rfl, show (5 : Int32).toInt = 5 from rfl, show (6 : Int32).toInt = 6 from rfl, show (7 : Int32).toInt = 7 from rfl, show (8 : Int32).toInt = 8 from rfl, show (9 : Int32).toInt = 9 from rfl, show (10 : Int32).toInt = 10 from rfl, show (11 : Int32).toInt = 11 from rfl, show (12 : Int32).toInt = 12 from rfl, show (13 : Int32).toInt = 13 from rfl, show (14 : Int32).toInt = 14 from rfl, show (15 : Int32).toInt = 15 from rfl]
  omega
theorem own_hexT {i : Int32} (h : 0 ≤ i.toInt ∧ i.toInt < 16) : ([.int 48, .int 49, .int 50, .int 51, .int 52, .int 53, .int 54, .int 55, .int 56, .int 57, .int 65, .int 66, .int 67, .int 68, .int 69, .int 70] : List Value).getD i.toNatClampNeg (.int 0) = .int (own_hexb i) := by
  rcases own_16 h with rfl | rfl | rfl | rfl | rfl | rfl | rfl | rfl | rfl | rfl | rfl | rfl | rfl | rfl | rfl | rfl <;> rfl
theorem own_hexE {i : Int32} (h : 0 ≤ i.toInt ∧ i.toInt < 16) : own_lc (nar .byte ((own_lc (own_hexb i)).toInt8.toInt32)) = own_hx i := by
  rcases own_16 h with rfl | rfl | rfl | rfl | rfl | rfl | rfl | rfl | rfl | rfl | rfl | rfl | rfl | rfl | rfl | rfl <;> decide
def own_e1 (u : Int32) : List Int32 := if own_unr (own_cb u) = (0 : Int32) then [37, own_lc (own_hexb (own_hi u)), own_lc (own_hexb (own_lo u))] else [own_cb u]
def own_enc0 : List Int32 := []
def own_enc1 (u0 : Int32) : List Int32 := own_e1 u0
def own_enc2 (u0 u1 : Int32) : List Int32 := own_e1 u0 ++ own_e1 u1
def own_enc3 (u0 u1 u2 : Int32) : List Int32 := own_e1 u0 ++ (own_e1 u1 ++ own_e1 u2)
theorem own_unr0 {p1 : Int32} (h : own_unr p1 = 0) : ¬ (¬ p1 < (65 : Int32) ∧ ¬ (90 : Int32) < p1) ∧ ¬ (¬ p1 < (97 : Int32) ∧ ¬ (122 : Int32) < p1) ∧ ¬ (¬ p1 < (48 : Int32) ∧ ¬ (57 : Int32) < p1) ∧ ¬ p1 = (45 : Int32) ∧ ¬ p1 = (95 : Int32) ∧ ¬ p1 = (46 : Int32) ∧ ¬ p1 = (126 : Int32) := by
  unfold own_unr at h
  refine ⟨fun q => ?_, fun q => ?_, fun q => ?_, fun q => ?_, fun q => ?_, fun q => ?_, fun q => ?_⟩
  all_goals (revert h; repeat' split) <;> intro h <;> first | (exact absurd h (by decide)) | contradiction

theorem own_e1L (u : Int32) : (own_e1 u).length = 1 ∨ (own_e1 u).length = 3 := by
  unfold own_e1
  split
  · exact Or.inr rfl
  · exact Or.inl rfl

theorem own_fitC1 {z1 : Int32} {vs : List Value} {cs : List Int32} (h : own_Fit1 z1 vs cs) (hl : cs.length = 1 ∨ cs.length = 3) : own_Comb z1 vs cs := by
  rcases h with ⟨rfl, rfl, rfl⟩ | ⟨c0, rfl, rfl, rfl⟩ | ⟨c0, c1, rfl, rfl, rfl⟩ | ⟨c0, c1, c2, rfl, rfl, rfl⟩
  · simp at hl
  · exact (Or.inr (Or.inl ⟨c0, rfl, rfl, rfl⟩))
  · simp at hl
  · exact (Or.inr (Or.inr (Or.inl ⟨c0, c1, c2, rfl, rfl, rfl⟩)))

theorem own_fitC2 {z1 : Int32} {vs : List Value} {cs : List Int32} (h : own_Fit2 z1 vs cs) (hl : cs.length = 2 ∨ cs.length = 4 ∨ cs.length = 6) : own_Comb z1 vs cs := by
  rcases h with ⟨rfl, rfl, rfl⟩ | ⟨c0, rfl, rfl, rfl⟩ | ⟨c0, c1, rfl, rfl, rfl⟩ | ⟨c0, c1, c2, rfl, rfl, rfl⟩ | ⟨c0, c1, c2, c3, rfl, rfl, rfl⟩ | ⟨c0, c1, c2, c3, c4, rfl, rfl, rfl⟩ | ⟨c0, c1, c2, c3, c4, c5, rfl, rfl, rfl⟩
  · simp at hl
  · simp at hl
  · exact (Or.inr (Or.inr (Or.inr (Or.inl ⟨c0, c1, rfl, rfl, rfl⟩))))
  · simp at hl
  · exact (Or.inr (Or.inr (Or.inr (Or.inr (Or.inl ⟨c0, c1, c2, c3, rfl, rfl, rfl⟩)))))
  · simp at hl
  · exact (Or.inr (Or.inr (Or.inr (Or.inr (Or.inr (Or.inl ⟨c0, c1, c2, c3, c4, c5, rfl, rfl, rfl⟩))))))

theorem own_fitC3 {z1 : Int32} {vs : List Value} {cs : List Int32} (h : own_Fit3 z1 vs cs) (hl : cs.length = 3 ∨ cs.length = 5 ∨ cs.length = 7 ∨ cs.length = 9) : own_Comb z1 vs cs := by
  rcases h with ⟨rfl, rfl, rfl⟩ | ⟨c0, rfl, rfl, rfl⟩ | ⟨c0, c1, rfl, rfl, rfl⟩ | ⟨c0, c1, c2, rfl, rfl, rfl⟩ | ⟨c0, c1, c2, c3, rfl, rfl, rfl⟩ | ⟨c0, c1, c2, c3, c4, rfl, rfl, rfl⟩ | ⟨c0, c1, c2, c3, c4, c5, rfl, rfl, rfl⟩ | ⟨c0, c1, c2, c3, c4, c5, c6, rfl, rfl, rfl⟩ | ⟨c0, c1, c2, c3, c4, c5, c6, c7, rfl, rfl, rfl⟩ | ⟨c0, c1, c2, c3, c4, c5, c6, c7, c8, rfl, rfl, rfl⟩
  · simp at hl
  · simp at hl
  · simp at hl
  · exact (Or.inr (Or.inr (Or.inr (Or.inr (Or.inr (Or.inr (Or.inl ⟨c0, c1, c2, rfl, rfl, rfl⟩)))))))
  · simp at hl
  · exact (Or.inr (Or.inr (Or.inr (Or.inr (Or.inr (Or.inr (Or.inr (Or.inl ⟨c0, c1, c2, c3, c4, rfl, rfl, rfl⟩))))))))
  · simp at hl
  · exact (Or.inr (Or.inr (Or.inr (Or.inr (Or.inr (Or.inr (Or.inr (Or.inr (Or.inl ⟨c0, c1, c2, c3, c4, c5, c6, rfl, rfl, rfl⟩)))))))))
  · simp at hl
  · exact (Or.inr (Or.inr (Or.inr (Or.inr (Or.inr (Or.inr (Or.inr (Or.inr (Or.inr (⟨c0, c1, c2, c3, c4, c5, c6, c7, c8, rfl, rfl, rfl⟩))))))))))

theorem d1_39 : decode prog_35_method_5_code 39 = .ok (.iload 6, 2) := by decide +kernel
theorem d1_41 : decode prog_35_method_5_code 41 = .ok (.bipush 65, 2) := by decide +kernel
theorem d1_43 : decode prog_35_method_5_code 43 = .ok (.if_icmp .lt 10, 3) := by decide +kernel
theorem d1_46 : decode prog_35_method_5_code 46 = .ok (.iload 6, 2) := by decide +kernel
theorem d1_48 : decode prog_35_method_5_code 48 = .ok (.bipush 90, 2) := by decide +kernel
theorem d1_50 : decode prog_35_method_5_code 50 = .ok (.if_icmp .le 59, 3) := by decide +kernel
theorem d1_53 : decode prog_35_method_5_code 53 = .ok (.iload 6, 2) := by decide +kernel
theorem d1_55 : decode prog_35_method_5_code 55 = .ok (.bipush 97, 2) := by decide +kernel
theorem d1_57 : decode prog_35_method_5_code 57 = .ok (.if_icmp .lt 10, 3) := by decide +kernel
theorem d1_60 : decode prog_35_method_5_code 60 = .ok (.iload 6, 2) := by decide +kernel
theorem d1_62 : decode prog_35_method_5_code 62 = .ok (.bipush 122, 2) := by decide +kernel
theorem d1_64 : decode prog_35_method_5_code 64 = .ok (.if_icmp .le 45, 3) := by decide +kernel
theorem d1_67 : decode prog_35_method_5_code 67 = .ok (.iload 6, 2) := by decide +kernel
theorem d1_69 : decode prog_35_method_5_code 69 = .ok (.bipush 48, 2) := by decide +kernel
theorem d1_71 : decode prog_35_method_5_code 71 = .ok (.if_icmp .lt 10, 3) := by decide +kernel
theorem d1_74 : decode prog_35_method_5_code 74 = .ok (.iload 6, 2) := by decide +kernel
theorem d1_76 : decode prog_35_method_5_code 76 = .ok (.bipush 57, 2) := by decide +kernel
theorem d1_78 : decode prog_35_method_5_code 78 = .ok (.if_icmp .le 31, 3) := by decide +kernel
theorem d1_81 : decode prog_35_method_5_code 81 = .ok (.iload 6, 2) := by decide +kernel
theorem d1_83 : decode prog_35_method_5_code 83 = .ok (.bipush 45, 2) := by decide +kernel
theorem d1_85 : decode prog_35_method_5_code 85 = .ok (.if_icmp .eq 24, 3) := by decide +kernel
theorem d1_88 : decode prog_35_method_5_code 88 = .ok (.iload 6, 2) := by decide +kernel
theorem d1_90 : decode prog_35_method_5_code 90 = .ok (.bipush 95, 2) := by decide +kernel
theorem d1_92 : decode prog_35_method_5_code 92 = .ok (.if_icmp .eq 17, 3) := by decide +kernel
theorem d1_95 : decode prog_35_method_5_code 95 = .ok (.iload 6, 2) := by decide +kernel
theorem d1_97 : decode prog_35_method_5_code 97 = .ok (.bipush 46, 2) := by decide +kernel
theorem d1_99 : decode prog_35_method_5_code 99 = .ok (.if_icmp .eq 10, 3) := by decide +kernel
theorem d1_102 : decode prog_35_method_5_code 102 = .ok (.iload 6, 2) := by decide +kernel
theorem d1_104 : decode prog_35_method_5_code 104 = .ok (.bipush 126, 2) := by decide +kernel
theorem d1_106 : decode prog_35_method_5_code 106 = .ok (.if_icmp .ne 13, 3) := by decide +kernel
theorem own_test {p : Program} {l : Launch} {e : Env} {R : Room} {s : State} {m : MethodId} {args : Array Value} {below : List Frame} {meth : Method} {c : Code} {T : State} {locs : List Loc} {cells slots : Nat} (X : Stand p l e R s m args below meth c T locs cells slots) (hx : p.tables.exec = Jvm.exec) (hby : c.code = prog_35_method_5_code) (s0 s1 s2 s3 s4 s5 : Slot) (x : Int32) :
    (own_unr x = 0 → own_Go p e below (T.setTop (mkF m 39 #[s0, s1, s2, s3, s4, s5, vI x] [])) (T.setTop (mkF m 119 #[s0, s1, s2, s3, s4, s5, vI x] []))) ∧ (¬ own_unr x = 0 → own_Go p e below (T.setTop (mkF m 39 #[s0, s1, s2, s3, s4, s5, vI x] [])) (T.setTop (mkF m 109 #[s0, s1, s2, s3, s4, s5, vI x] []))) := by
  refine ⟨fun hu => ?_, fun hu => ?_⟩
  · obtain ⟨S0, hS0⟩ : ∃ z, z = T.setTop (mkF m 39 #[s0, s1, s2, s3, s4, s5, vI x] []) := ⟨_, rfl⟩
    rw [← hS0]
    have pre0 : own_Go p e below S0 (T.setTop (mkF m 39 #[s0, s1, s2, s3, s4, s5, vI x] [])) := fun t k => by rw [hS0]; exact k
    obtain ⟨n1, n2, n3, n4, n5, n6, n7⟩ := own_unr0 hu
    have pre1 : own_Go p e below S0 (T.setTop (mkF m 53 #[s0, s1, s2, s3, s4, s5, vI x] [])) := by
      have pre3 : own_Go p e below S0 (T.setTop (mkF m 43 #[s0, s1, s2, s3, s4, s5, vI x] [(.int 65), (.int x)])) := by
        intro t kt
        refine pre0 t ?_
        refine XS.iload X.here hx rfl (hb hby d1_39) rfl ?_
        refine XS.bipush X.here hx rfl (hb hby d1_41) ?_
        exact kt
      by_cases hc2 : x < (65 : Int32)
      · have pre4 : own_Go p e below S0 (T.setTop (mkF m 53 #[s0, s1, s2, s3, s4, s5, vI x] [])) := by
          intro t kt
          refine pre3 t ?_
          refine XS.icmpYes X.here hx rfl (pc0 := 43) (pc' := 53) rfl (hb hby d1_43) rfl (tlt hc2).1 (by decide) (by decide) ?_
          exact kt
        exact pre4
      · have pre5 : own_Go p e below S0 (T.setTop (mkF m 53 #[s0, s1, s2, s3, s4, s5, vI x] [])) := by
          intro t kt
          refine pre3 t ?_
          refine XS.icmpNo X.here hx rfl (hb hby d1_43) rfl (flt hc2).1 ?_
          refine XS.iload X.here hx rfl (hb hby d1_46) rfl ?_
          refine XS.bipush X.here hx rfl (hb hby d1_48) ?_
          refine XS.icmpNo X.here hx rfl (hb hby d1_50) rfl (tlt (Decidable.byContradiction fun q => n1 ⟨hc2, q⟩)).2.2.2 ?_
          exact kt
        exact pre5
    have pre6 : own_Go p e below S0 (T.setTop (mkF m 67 #[s0, s1, s2, s3, s4, s5, vI x] [])) := by
      have pre8 : own_Go p e below S0 (T.setTop (mkF m 57 #[s0, s1, s2, s3, s4, s5, vI x] [(.int 97), (.int x)])) := by
        intro t kt
        refine pre1 t ?_
        refine XS.iload X.here hx rfl (hb hby d1_53) rfl ?_
        refine XS.bipush X.here hx rfl (hb hby d1_55) ?_
        exact kt
      by_cases hc7 : x < (97 : Int32)
      · have pre9 : own_Go p e below S0 (T.setTop (mkF m 67 #[s0, s1, s2, s3, s4, s5, vI x] [])) := by
          intro t kt
          refine pre8 t ?_
          refine XS.icmpYes X.here hx rfl (pc0 := 57) (pc' := 67) rfl (hb hby d1_57) rfl (tlt hc7).1 (by decide) (by decide) ?_
          exact kt
        exact pre9
      · have pre10 : own_Go p e below S0 (T.setTop (mkF m 67 #[s0, s1, s2, s3, s4, s5, vI x] [])) := by
          intro t kt
          refine pre8 t ?_
          refine XS.icmpNo X.here hx rfl (hb hby d1_57) rfl (flt hc7).1 ?_
          refine XS.iload X.here hx rfl (hb hby d1_60) rfl ?_
          refine XS.bipush X.here hx rfl (hb hby d1_62) ?_
          refine XS.icmpNo X.here hx rfl (hb hby d1_64) rfl (tlt (Decidable.byContradiction fun q => n2 ⟨hc7, q⟩)).2.2.2 ?_
          exact kt
        exact pre10
    have pre11 : own_Go p e below S0 (T.setTop (mkF m 81 #[s0, s1, s2, s3, s4, s5, vI x] [])) := by
      have pre13 : own_Go p e below S0 (T.setTop (mkF m 71 #[s0, s1, s2, s3, s4, s5, vI x] [(.int 48), (.int x)])) := by
        intro t kt
        refine pre6 t ?_
        refine XS.iload X.here hx rfl (hb hby d1_67) rfl ?_
        refine XS.bipush X.here hx rfl (hb hby d1_69) ?_
        exact kt
      by_cases hc12 : x < (48 : Int32)
      · have pre14 : own_Go p e below S0 (T.setTop (mkF m 81 #[s0, s1, s2, s3, s4, s5, vI x] [])) := by
          intro t kt
          refine pre13 t ?_
          refine XS.icmpYes X.here hx rfl (pc0 := 71) (pc' := 81) rfl (hb hby d1_71) rfl (tlt hc12).1 (by decide) (by decide) ?_
          exact kt
        exact pre14
      · have pre15 : own_Go p e below S0 (T.setTop (mkF m 81 #[s0, s1, s2, s3, s4, s5, vI x] [])) := by
          intro t kt
          refine pre13 t ?_
          refine XS.icmpNo X.here hx rfl (hb hby d1_71) rfl (flt hc12).1 ?_
          refine XS.iload X.here hx rfl (hb hby d1_74) rfl ?_
          refine XS.bipush X.here hx rfl (hb hby d1_76) ?_
          refine XS.icmpNo X.here hx rfl (hb hby d1_78) rfl (tlt (Decidable.byContradiction fun q => n3 ⟨hc12, q⟩)).2.2.2 ?_
          exact kt
        exact pre15
    have pre16 : own_Go p e below S0 (T.setTop (mkF m 119 #[s0, s1, s2, s3, s4, s5, vI x] [])) := by
      intro t kt
      refine pre11 t ?_
      refine XS.iload X.here hx rfl (hb hby d1_81) rfl ?_
      refine XS.bipush X.here hx rfl (hb hby d1_83) ?_
      refine XS.icmpNo X.here hx rfl (hb hby d1_85) rfl (feq n4).1 ?_
      refine XS.iload X.here hx rfl (hb hby d1_88) rfl ?_
      refine XS.bipush X.here hx rfl (hb hby d1_90) ?_
      refine XS.icmpNo X.here hx rfl (hb hby d1_92) rfl (feq n5).1 ?_
      refine XS.iload X.here hx rfl (hb hby d1_95) rfl ?_
      refine XS.bipush X.here hx rfl (hb hby d1_97) ?_
      refine XS.icmpNo X.here hx rfl (hb hby d1_99) rfl (feq n6).1 ?_
      refine XS.iload X.here hx rfl (hb hby d1_102) rfl ?_
      refine XS.bipush X.here hx rfl (hb hby d1_104) ?_
      refine XS.icmpYes X.here hx rfl (pc0 := 106) (pc' := 119) rfl (hb hby d1_106) rfl (feq n7).2 (by decide) (by decide) ?_
      show Steps p.tables e below (T.setTop (mkF m 119 #[s0, s1, s2, s3, s4, s5, vI x] [])) _
      exact kt
    exact pre16
  · obtain ⟨S0, hS0⟩ : ∃ z, z = T.setTop (mkF m 39 #[s0, s1, s2, s3, s4, s5, vI x] []) := ⟨_, rfl⟩
    rw [← hS0]
    have pre0 : own_Go p e below S0 (T.setTop (mkF m 39 #[s0, s1, s2, s3, s4, s5, vI x] [])) := fun t k => by rw [hS0]; exact k
    by_cases hA17 : (¬ x < (65 : Int32) ∧ ¬ (90 : Int32) < x)
    · have pre18 : own_Go p e below S0 (T.setTop (mkF m 109 #[s0, s1, s2, s3, s4, s5, vI x] [])) := by
        intro t kt
        refine pre0 t ?_
        refine XS.iload X.here hx rfl (hb hby d1_39) rfl ?_
        refine XS.bipush X.here hx rfl (hb hby d1_41) ?_
        refine XS.icmpNo X.here hx rfl (hb hby d1_43) rfl (flt hA17.1).1 ?_
        refine XS.iload X.here hx rfl (hb hby d1_46) rfl ?_
        refine XS.bipush X.here hx rfl (hb hby d1_48) ?_
        refine XS.icmpYes X.here hx rfl (pc0 := 50) (pc' := 109) rfl (hb hby d1_50) rfl (flt hA17.2).2.2.2 (by decide) (by decide) ?_
        exact kt
      exact pre18
    · have pre19 : own_Go p e below S0 (T.setTop (mkF m 53 #[s0, s1, s2, s3, s4, s5, vI x] [])) := by
        have pre21 : own_Go p e below S0 (T.setTop (mkF m 43 #[s0, s1, s2, s3, s4, s5, vI x] [(.int 65), (.int x)])) := by
          intro t kt
          refine pre0 t ?_
          refine XS.iload X.here hx rfl (hb hby d1_39) rfl ?_
          refine XS.bipush X.here hx rfl (hb hby d1_41) ?_
          exact kt
        by_cases hc20 : x < (65 : Int32)
        · have pre22 : own_Go p e below S0 (T.setTop (mkF m 53 #[s0, s1, s2, s3, s4, s5, vI x] [])) := by
            intro t kt
            refine pre21 t ?_
            refine XS.icmpYes X.here hx rfl (pc0 := 43) (pc' := 53) rfl (hb hby d1_43) rfl (tlt hc20).1 (by decide) (by decide) ?_
            exact kt
          exact pre22
        · have pre23 : own_Go p e below S0 (T.setTop (mkF m 53 #[s0, s1, s2, s3, s4, s5, vI x] [])) := by
            intro t kt
            refine pre21 t ?_
            refine XS.icmpNo X.here hx rfl (hb hby d1_43) rfl (flt hc20).1 ?_
            refine XS.iload X.here hx rfl (hb hby d1_46) rfl ?_
            refine XS.bipush X.here hx rfl (hb hby d1_48) ?_
            refine XS.icmpNo X.here hx rfl (hb hby d1_50) rfl (tlt (Decidable.byContradiction fun q => hA17 ⟨hc20, q⟩)).2.2.2 ?_
            exact kt
          exact pre23
      by_cases hA24 : (¬ x < (97 : Int32) ∧ ¬ (122 : Int32) < x)
      · have pre25 : own_Go p e below S0 (T.setTop (mkF m 109 #[s0, s1, s2, s3, s4, s5, vI x] [])) := by
          intro t kt
          refine pre19 t ?_
          refine XS.iload X.here hx rfl (hb hby d1_53) rfl ?_
          refine XS.bipush X.here hx rfl (hb hby d1_55) ?_
          refine XS.icmpNo X.here hx rfl (hb hby d1_57) rfl (flt hA24.1).1 ?_
          refine XS.iload X.here hx rfl (hb hby d1_60) rfl ?_
          refine XS.bipush X.here hx rfl (hb hby d1_62) ?_
          refine XS.icmpYes X.here hx rfl (pc0 := 64) (pc' := 109) rfl (hb hby d1_64) rfl (flt hA24.2).2.2.2 (by decide) (by decide) ?_
          exact kt
        exact pre25
      · have pre26 : own_Go p e below S0 (T.setTop (mkF m 67 #[s0, s1, s2, s3, s4, s5, vI x] [])) := by
          have pre28 : own_Go p e below S0 (T.setTop (mkF m 57 #[s0, s1, s2, s3, s4, s5, vI x] [(.int 97), (.int x)])) := by
            intro t kt
            refine pre19 t ?_
            refine XS.iload X.here hx rfl (hb hby d1_53) rfl ?_
            refine XS.bipush X.here hx rfl (hb hby d1_55) ?_
            exact kt
          by_cases hc27 : x < (97 : Int32)
          · have pre29 : own_Go p e below S0 (T.setTop (mkF m 67 #[s0, s1, s2, s3, s4, s5, vI x] [])) := by
              intro t kt
              refine pre28 t ?_
              refine XS.icmpYes X.here hx rfl (pc0 := 57) (pc' := 67) rfl (hb hby d1_57) rfl (tlt hc27).1 (by decide) (by decide) ?_
              exact kt
            exact pre29
          · have pre30 : own_Go p e below S0 (T.setTop (mkF m 67 #[s0, s1, s2, s3, s4, s5, vI x] [])) := by
              intro t kt
              refine pre28 t ?_
              refine XS.icmpNo X.here hx rfl (hb hby d1_57) rfl (flt hc27).1 ?_
              refine XS.iload X.here hx rfl (hb hby d1_60) rfl ?_
              refine XS.bipush X.here hx rfl (hb hby d1_62) ?_
              refine XS.icmpNo X.here hx rfl (hb hby d1_64) rfl (tlt (Decidable.byContradiction fun q => hA24 ⟨hc27, q⟩)).2.2.2 ?_
              exact kt
            exact pre30
        by_cases hA31 : (¬ x < (48 : Int32) ∧ ¬ (57 : Int32) < x)
        · have pre32 : own_Go p e below S0 (T.setTop (mkF m 109 #[s0, s1, s2, s3, s4, s5, vI x] [])) := by
            intro t kt
            refine pre26 t ?_
            refine XS.iload X.here hx rfl (hb hby d1_67) rfl ?_
            refine XS.bipush X.here hx rfl (hb hby d1_69) ?_
            refine XS.icmpNo X.here hx rfl (hb hby d1_71) rfl (flt hA31.1).1 ?_
            refine XS.iload X.here hx rfl (hb hby d1_74) rfl ?_
            refine XS.bipush X.here hx rfl (hb hby d1_76) ?_
            refine XS.icmpYes X.here hx rfl (pc0 := 78) (pc' := 109) rfl (hb hby d1_78) rfl (flt hA31.2).2.2.2 (by decide) (by decide) ?_
            exact kt
          exact pre32
        · have pre33 : own_Go p e below S0 (T.setTop (mkF m 81 #[s0, s1, s2, s3, s4, s5, vI x] [])) := by
            have pre35 : own_Go p e below S0 (T.setTop (mkF m 71 #[s0, s1, s2, s3, s4, s5, vI x] [(.int 48), (.int x)])) := by
              intro t kt
              refine pre26 t ?_
              refine XS.iload X.here hx rfl (hb hby d1_67) rfl ?_
              refine XS.bipush X.here hx rfl (hb hby d1_69) ?_
              exact kt
            by_cases hc34 : x < (48 : Int32)
            · have pre36 : own_Go p e below S0 (T.setTop (mkF m 81 #[s0, s1, s2, s3, s4, s5, vI x] [])) := by
                intro t kt
                refine pre35 t ?_
                refine XS.icmpYes X.here hx rfl (pc0 := 71) (pc' := 81) rfl (hb hby d1_71) rfl (tlt hc34).1 (by decide) (by decide) ?_
                exact kt
              exact pre36
            · have pre37 : own_Go p e below S0 (T.setTop (mkF m 81 #[s0, s1, s2, s3, s4, s5, vI x] [])) := by
                intro t kt
                refine pre35 t ?_
                refine XS.icmpNo X.here hx rfl (hb hby d1_71) rfl (flt hc34).1 ?_
                refine XS.iload X.here hx rfl (hb hby d1_74) rfl ?_
                refine XS.bipush X.here hx rfl (hb hby d1_76) ?_
                refine XS.icmpNo X.here hx rfl (hb hby d1_78) rfl (tlt (Decidable.byContradiction fun q => hA31 ⟨hc34, q⟩)).2.2.2 ?_
                exact kt
              exact pre37
          have pre39 : own_Go p e below S0 (T.setTop (mkF m 85 #[s0, s1, s2, s3, s4, s5, vI x] [(.int 45), (.int x)])) := by
            intro t kt
            refine pre33 t ?_
            refine XS.iload X.here hx rfl (hb hby d1_81) rfl ?_
            refine XS.bipush X.here hx rfl (hb hby d1_83) ?_
            exact kt
          by_cases hc38 : x = (45 : Int32)
          · have pre40 : own_Go p e below S0 (T.setTop (mkF m 109 #[s0, s1, s2, s3, s4, s5, vI x] [])) := by
              intro t kt
              refine pre39 t ?_
              refine XS.icmpYes X.here hx rfl (pc0 := 85) (pc' := 109) rfl (hb hby d1_85) rfl (teq hc38).1 (by decide) (by decide) ?_
              exact kt
            exact pre40
          · have pre42 : own_Go p e below S0 (T.setTop (mkF m 92 #[s0, s1, s2, s3, s4, s5, vI x] [(.int 95), (.int x)])) := by
              intro t kt
              refine pre39 t ?_
              refine XS.icmpNo X.here hx rfl (hb hby d1_85) rfl (feq hc38).1 ?_
              refine XS.iload X.here hx rfl (hb hby d1_88) rfl ?_
              refine XS.bipush X.here hx rfl (hb hby d1_90) ?_
              exact kt
            by_cases hc41 : x = (95 : Int32)
            · have pre43 : own_Go p e below S0 (T.setTop (mkF m 109 #[s0, s1, s2, s3, s4, s5, vI x] [])) := by
                intro t kt
                refine pre42 t ?_
                refine XS.icmpYes X.here hx rfl (pc0 := 92) (pc' := 109) rfl (hb hby d1_92) rfl (teq hc41).1 (by decide) (by decide) ?_
                exact kt
              exact pre43
            · have pre45 : own_Go p e below S0 (T.setTop (mkF m 99 #[s0, s1, s2, s3, s4, s5, vI x] [(.int 46), (.int x)])) := by
                intro t kt
                refine pre42 t ?_
                refine XS.icmpNo X.here hx rfl (hb hby d1_92) rfl (feq hc41).1 ?_
                refine XS.iload X.here hx rfl (hb hby d1_95) rfl ?_
                refine XS.bipush X.here hx rfl (hb hby d1_97) ?_
                exact kt
              by_cases hc44 : x = (46 : Int32)
              · have pre46 : own_Go p e below S0 (T.setTop (mkF m 109 #[s0, s1, s2, s3, s4, s5, vI x] [])) := by
                  intro t kt
                  refine pre45 t ?_
                  refine XS.icmpYes X.here hx rfl (pc0 := 99) (pc' := 109) rfl (hb hby d1_99) rfl (teq hc44).1 (by decide) (by decide) ?_
                  exact kt
                exact pre46
              · have pre47 : own_Go p e below S0 (T.setTop (mkF m 109 #[s0, s1, s2, s3, s4, s5, vI x] [])) := by
                  intro t kt
                  refine pre45 t ?_
                  refine XS.icmpNo X.here hx rfl (hb hby d1_99) rfl (feq hc44).1 ?_
                  refine XS.iload X.here hx rfl (hb hby d1_102) rfl ?_
                  refine XS.bipush X.here hx rfl (hb hby d1_104) ?_
                  refine XS.icmpNo X.here hx rfl (hb hby d1_106) rfl (teq (show x = (126 : Int32) from Decidable.byContradiction fun q => hu (by rw [own_unr, if_neg hA17, if_neg hA24, if_neg hA31, if_neg hc38, if_neg hc41, if_neg hc44, if_neg q]))).2 ?_
                  exact kt
                exact pre47

theorem d1_0 : decode prog_35_method_5_code 0 = .ok (.new 101, 3) := by decide +kernel
theorem d1_3 : decode prog_35_method_5_code 3 = .ok (.dup, 1) := by decide +kernel
theorem d1_4 : decode prog_35_method_5_code 4 = .ok (.aload_n 0, 1) := by decide +kernel
theorem d1_5 : decode prog_35_method_5_code 5 = .ok (.arraylength, 1) := by decide +kernel
theorem d1_6 : decode prog_35_method_5_code 6 = .ok (.invokespecial 103, 3) := by decide +kernel
theorem d1_9 : decode prog_35_method_5_code 9 = .ok (.astore_n 1, 1) := by decide +kernel
theorem d1_10 : decode prog_35_method_5_code 10 = .ok (.aload_n 0, 1) := by decide +kernel
theorem d1_11 : decode prog_35_method_5_code 11 = .ok (.astore_n 2, 1) := by decide +kernel
theorem d1_12 : decode prog_35_method_5_code 12 = .ok (.aload_n 2, 1) := by decide +kernel
theorem d1_13 : decode prog_35_method_5_code 13 = .ok (.arraylength, 1) := by decide +kernel
theorem d1_14 : decode prog_35_method_5_code 14 = .ok (.istore_n 3, 1) := by decide +kernel
theorem d1_15 : decode prog_35_method_5_code 15 = .ok (.iconst 0, 1) := by decide +kernel
theorem d1_16 : decode prog_35_method_5_code 16 = .ok (.istore 4, 2) := by decide +kernel
theorem d1_18 : decode prog_35_method_5_code 18 = .ok (.iload 4, 2) := by decide +kernel
theorem d1_20 : decode prog_35_method_5_code 20 = .ok (.iload_n 3, 1) := by decide +kernel
theorem d1_21 : decode prog_35_method_5_code 21 = .ok (.if_icmp .ge 136, 3) := by decide +kernel
theorem d1_157 : decode prog_35_method_5_code 157 = .ok (.aload_n 1, 1) := by decide +kernel
theorem d1_158 : decode prog_35_method_5_code 158 = .ok (.invokevirtual 114, 3) := by decide +kernel
theorem d1_161 : decode prog_35_method_5_code 161 = .ok (.areturn, 1) := by decide +kernel
theorem pn_1 : plainName "com/example/permgrid/permgrid/PercentEncoding" = true := by first | (simp [plainName, overriddenIn]; done) | decide +kernel
theorem pd_17 : parseMethodDescriptor "()Ljava/lang/String;" = some ⟨[], some (.object "java/lang/String")⟩ := by decide +kernel
theorem ef_enc0 (m : MethodId) (x0 : Addr) : entryFrame m #[(.ref x0)] 7 = mkF m 0 #[vR x0, .unset, .unset, .unset, .unset, .unset, .unset] [] := by first | (simp [entryFrame, mkF, argsToLocals, Value.category]; done) | rfl
def Qenc0 (Z : State) (a1 : Addr) (wC : Int32) (wF : Value) (k1 : ClassId) (h0 : Heap) (n0 : Nat) (v : Option Value) (h : Heap) (L : List Loc) : Prop := ∃ b : Addr, ∃ vb : Addr, ∃ kb : ClassId, v = (some (.ref b)) ∧ Fr n0 L ∧ Keep h0 h [] ∧ h0.size ≤ b ∧ own_StrL Z h b vb kb own_enc0
set_option maxRecDepth 65536 in
set_option maxHeartbeats 40000000 in
theorem rmenc0 (l : Launch) (Z : State) (a0 : Array Value) (hw : ∀ d ∈ tables_1, d.before a0 Z = true) (ws : List Jvm.Cond) (a1 : Addr) (wC : Int32) (wF : Value) (k1 : ClassId) (h0 : Heap) (n0 : Nat) (Z0 : n0 ≤ h0.size) (O0 : Old Z n0 h0) (qC : (own_SC Z wC)) (qF : (own_SF Z wF)) (V1 : Arv Z h0 a1 k1 .byte (0 : Int32) [] (.int 0)) :
  MetFree l own_m0 (head1 (Jvm.Cond.code own_m0 prog_35_method_5_code 7 (some (.object "java/lang/String")) :: ws) (own_r 7 4 17 117)) (fun a U => a = #[(.ref a1)] ∧ Z.Warmed39 U.vm ∧ U.heap = h0) (fun _ _ _ _ _ => True) (fun _ U o U' => ∃ v L, o = .returned v ∧ Qenc0 Z a1 wC wF k1 h0 n0 v U'.heap L ∧ FrameEnd U o U' L (own_r 7 4 17 117).cells (own_r 7 4 17 117).slots) := by
 refine MetFree.of_bodySF (plainFor_of_name pn_1) hisR ?_
 intro p e s m args below meth c s₁ Bd hml0 hP hK
 have H : ∀ (i : Nat) {d : Jvm.Cond}, tables_1[i]? = some d → d.before a0 Z = true := fun i _ h => hw _ (own_w i h)
 obtain ⟨rfl, hZ, hh⟩ := hP
 have hx := Bd.exec
 have hby := Bd.bytes
 have hml : c.maxLocals = 7 := hml0
 have hown0 := findClass_of_methodNamed Bd.named
 have hown : s.vm.findClass "com/example/permgrid/permgrid/PercentEncoding" = some m.cls := hown0
 have hnm := (name_of_methodNamed Bd.named Bd.method).1
 have X0 : Stand p l e (own_r 7 4 17 117) s m #[(.ref a1)] below meth c s₁ [] 0 0 := Stand.of_body Bd
 have e0 : s₁.heap = h0 := by rw [← hh, Bd.state]; rfl
 have N0 := Fr.nil n0
 obtain ⟨S0, hS0⟩ : ∃ z, z = s₁.setTop (entryFrame m #[(.ref a1)] 7) := ⟨_, rfl⟩
 have pre0 : own_Go p e below S0 (s₁.setTop (mkF m 0 #[vR a1, .unset, .unset, .unset, .unset, .unset, .unset] [])) := fun t k => by rw [hS0]; exact castTop (ef_enc0 m a1) k
 have fin : ∀ t, Steps p.tables e below S0 t → Steps p.tables e below (s₁.setTop (entryFrame m #[(.ref a1)] 7)) t := fun t k => by rw [hS0] at k; exact k
 have kc0 : Keep h0 h0 [] := Keep.refl _ _
 obtain ⟨T1, h1, X1, e1, E1, A1, D1, -, st1⟩ := newO X0 hx hZ hown (H 5 rfl) (H 6 rfl) (H 7 rfl) e0 (g := (own_top pre0)) rfl (hb hby d1_0) (by decide) (by decide)
 obtain ⟨b1, g1⟩ : ∃ z, z = h0.size := ⟨_, rfl⟩
 rw [← g1] at A1 D1 st1
 have ne2 : a1 ≠ b1 := Nat.ne_of_lt (Nat.lt_of_lt_of_le V1.lt (Nat.le_of_eq g1.symm))
 have ge3 : n0 ≤ b1 := Nat.le_trans Z0 (Nat.le_of_eq g1.symm)
 have sz4 : h0.size ≤ b1 := Nat.le_trans kc0.1 (Nat.le_of_eq g1.symm)
 have zs5 : n0 ≤ h1.size := Nat.le_trans Z0 E1.1
 have kc6 : Keep h0 h1 [] := kc0.ext E1
 have fd7 : Fld Z h1 b1 "java/lang/AbstractStringBuilder" "value" "[B" .null := D1 (Or.inl (H 23 rfl)) (ty := (.array .byte)) (by decide)
 have fd8 : Fld Z h1 b1 "java/lang/AbstractStringBuilder" "coder" "B" (.int 0) := D1 (Or.inl (H 25 rfl)) (ty := .byte) (by decide)
 have fd9 : Fld Z h1 b1 "java/lang/AbstractStringBuilder" "count" "I" (.int 0) := D1 (Or.inl (H 56 rfl)) (ty := .int) (by decide)
 have pre10 : own_Go p e below S0 (T1.setTop (mkF m 5 #[vR a1, .unset, .unset, .unset, .unset, .unset, .unset] [(.ref a1), (.ref b1), (.ref b1)])) := by
  intro t kt
  refine pre0 t ?_
  refine st1 _ ?_
  refine XS.dup X1.here hx rfl (hb hby d1_3) rfl rfl ?_
  refine XS.aloadN X1.here hx rfl (hb hby d1_4) rfl rfl ?_
  exact kt
 have f11 : Arv Z h1 a1 k1 .byte (0 : Int32) [] (.int 0) := (V1.ext E1)
 obtain ⟨cl12, Ar12, -, Sz12, Ng12, -, -⟩ := id f11
 have pre13 : own_Go p e below S0 (T1.setTop (mkF m 6 #[vR a1, .unset, .unset, .unset, .unset, .unset, .unset] [(.int 0), (.ref b1), (.ref b1)])) := by
  intro t kt
  refine pre10 t ?_
  refine X1.arraylength hx (by rw [e1]; exact Ar12.1) (State.isArrayOf_alike hZ.alike Ar12.2.1) (g := (own_top pre10)) rfl rfl (hb hby d1_5) _ ?_
  rw [len_of Sz12 Ng12]
  show Steps p.tables e below (T1.setTop (mkF m 6 #[vR a1, .unset, .unset, .unset, .unset, .unset, .unset] [(.int 0), (.ref b1), (.ref b1)])) _
  exact kt
 have f14 : Old Z n0 h1 := (O0.ext E1)
 obtain ⟨_, _, ⟨T15, L15, k15, n15⟩, -, X15, ⟨Lc15, hQ15, l15, y15, z15⟩, st15⟩ := X1.specialBack hx (y := own_m20) rfl hown (mvT hZ (H 8 rfl)) (mvT hZ (H 9 rfl)) (mvT hZ (H 10 rfl)) (by decide) (backOf (W := 1) (rmsi0 l Z a0 hw [] b1 wC h1 n0 zs5 f14 qC A1 fd7 fd8 fd9 ge3) hZ (H 10 rfl) (H 7 rfl) (by decide) (by decide)) (g := (own_top pre13)) rfl (by rw [hml]; rfl) (Steps.refl _) (a := b1) (argsL := [(.int 0)]) (rest := [(.ref b1)]) (lenOf pd_4 rfl) rfl (by show 2 * 0 + _ ≤ _; exact Nat.le_of_eq rfl) (hb hby d1_6) (fun _ _ => ⟨rfl, e1, (by decide : 1 + 1 ≤ _), (by decide : 4 + 0 ≤ _)⟩)
 dsimp only [Pt.U, Pt.locs, Pt.cells, Pt.slots] at X15 l15 y15 z15 st15 hQ15
 subst l15 y15 z15
 obtain ⟨b16, kb17, rfl, Nq15, K15, g18, g19, g20, g21, g22, g23, g24⟩ := hQ15
 have N15 := Fr.app N0 Nq15
 have ne25 : a1 ≠ b16 := Nat.ne_of_lt (Nat.lt_of_lt_of_le f11.lt g18)
 have ne26 : b1 ≠ b16 := Nat.ne_of_lt (Nat.lt_of_lt_of_le A1.lt g18)
 have ge27 : n0 ≤ b16 := Nat.le_trans zs5 g18
 have sz28 : h0.size ≤ b16 := Nat.le_trans kc6.1 g18
 have zs29 : n0 ≤ T15.heap.size := Nat.le_trans zs5 K15.1
 have kc30 : Keep h0 T15.heap [] := kc6.trans K15 (allS (Or.inr sz4) all0)
 have pre31 : own_Go p e below S0 (T15.setTop (mkF m 13 #[vR a1, vR b1, vR a1, .unset, .unset, .unset, .unset] [(.ref a1)])) := by
  intro t kt
  refine pre13 t ?_
  refine st15.trans ?_
  show Steps p.tables e below (T15.setTop (mkF m 9 #[vR a1, .unset, .unset, .unset, .unset, .unset, .unset] [(.ref b1)])) _
  refine XS.astoreN X15.here hx rfl (hb hby d1_9) rfl rfl (l' := #[vR a1, vR b1, .unset, .unset, .unset, .unset, .unset]) rfl ?_
  refine XS.aloadN X15.here hx rfl (hb hby d1_10) rfl rfl ?_
  refine XS.astoreN X15.here hx rfl (hb hby d1_11) rfl rfl (l' := #[vR a1, vR b1, vR a1, .unset, .unset, .unset, .unset]) rfl ?_
  refine XS.aloadN X15.here hx rfl (hb hby d1_12) rfl rfl ?_
  exact kt
 have f32 : Arv Z T15.heap a1 k1 .byte (0 : Int32) [] (.int 0) := (f11.keep K15 (ninS ne2 nin0))
 obtain ⟨cl33, Ar33, -, Sz33, Ng33, -, -⟩ := id f32
 have pre34 : own_Go p e below S0 (T15.setTop (mkF m 158 #[vR a1, vR b1, vR a1, vI 0, vI 0, .unset, .unset] [(.ref b1)])) := by
  intro t kt
  refine pre31 t ?_
  refine X15.arraylength hx Ar33.1 (State.isArrayOf_alike hZ.alike Ar33.2.1) (g := (own_top pre31)) rfl rfl (hb hby d1_13) _ ?_
  rw [len_of Sz33 Ng33]
  show Steps p.tables e below (T15.setTop (mkF m 14 #[vR a1, vR b1, vR a1, .unset, .unset, .unset, .unset] [(.int 0)])) _
  refine XS.istoreN X15.here hx rfl (hb hby d1_14) rfl (l' := #[vR a1, vR b1, vR a1, vI 0, .unset, .unset, .unset]) rfl ?_
  refine XS.iconst X15.here hx rfl (hb hby d1_15) ?_
  refine XS.istore X15.here hx rfl (hb hby d1_16) rfl (l' := #[vR a1, vR b1, vR a1, vI 0, vI 0, .unset, .unset]) rfl ?_
  refine XS.iload X15.here hx rfl (hb hby d1_18) rfl ?_
  refine XS.iloadN X15.here hx rfl (hb hby d1_20) rfl ?_
  refine XS.icmpYes X15.here hx rfl (pc0 := 21) (pc' := 157) rfl (hb hby d1_21) rfl (flt (by decide : ¬ ((0 : Int32) < (0 : Int32)))).2.1 (by decide) (by decide) ?_
  refine XS.aloadN X15.here hx rfl (hb hby d1_157) rfl rfl ?_
  exact kt
 have f35 : Old Z n0 T15.heap := (f14.keep K15 (allS ge3 all0))
 obtain ⟨cq36, kq36, qa36, qb36, qc36⟩ := isOf hZ rfl g21
 obtain ⟨_, _, ⟨T36, L36, k36, n36⟩, -, X36, ⟨Lc36, hQ36, l36, y36, z36⟩, st36⟩ := X15.virtualBack hx (y := own_m23) (z := own_m23) hown (mvT hZ (H 26 rfl)) (mvT hZ (H 27 rfl)) (notFace_of_selects (args := #[]) (mvT hZ (H 29 rfl))) (mvT hZ (H 29 rfl)) (mvT hZ (H 28 rfl)) (by decide) (backOf (W := 0) (rmts l Z a0 hw [] b1 wC b16 kb17 (0 : Int32) [] ([] : List Int32) T15.heap n0 zs29 f35 qC g21 g22 g23 g24 g19 g20 (Or.inl ⟨rfl, rfl, rfl⟩)) hZ (H 30 rfl) (H 7 rfl) (by decide) (by decide)) qa36 qc36 (g := (own_top pre34)) rfl (by rw [hml]; rfl) (Steps.refl _) (argsL := []) (rest := []) (lenOf pd_17 rfl) rfl (by show 2 * 0 + _ ≤ _; exact Nat.le_of_eq rfl) (hb hby d1_158) (fun _ _ => ⟨rfl, rfl, (by decide : 2 + 2 ≤ _), (by decide : 4 + 13 ≤ _)⟩)
 dsimp only [Pt.U, Pt.locs, Pt.cells, Pt.slots] at X36 l36 y36 z36 st36 hQ36
 subst l36 y36 z36
 obtain ⟨b37, vb38, kb39, rfl, Nq36, K36, g40, g41, g42⟩ := hQ36
 have N36 := Fr.app N15 Nq36
 have ne43 : a1 ≠ b37 := Nat.ne_of_lt (Nat.lt_of_lt_of_le f32.lt g40)
 have ne44 : b1 ≠ b37 := Nat.ne_of_lt (Nat.lt_of_lt_of_le g21.lt g40)
 have ne45 : b16 ≠ b37 := Nat.ne_of_lt (Nat.lt_of_lt_of_le g19.lt g40)
 have ge46 : n0 ≤ b37 := Nat.le_trans zs29 g40
 have sz47 : h0.size ≤ b37 := Nat.le_trans kc30.1 g40
 have ne48 : a1 ≠ vb38 := Nat.ne_of_lt (Nat.lt_of_lt_of_le f32.lt g41)
 have ne49 : b1 ≠ vb38 := Nat.ne_of_lt (Nat.lt_of_lt_of_le g21.lt g41)
 have ne50 : b16 ≠ vb38 := Nat.ne_of_lt (Nat.lt_of_lt_of_le g19.lt g41)
 have ge51 : n0 ≤ vb38 := Nat.le_trans zs29 g41
 have sz52 : h0.size ≤ vb38 := Nat.le_trans kc30.1 g41
 have zs53 : n0 ≤ T36.heap.size := Nat.le_trans zs29 K36.1
 have kc54 : Keep h0 T36.heap [] := kc30.trans K36 all0
 have pre55 : own_Go p e below S0 (T36.setTop (mkF m 161 #[vR a1, vR b1, vR a1, vI 0, vI 0, .unset, .unset] [(.ref b37)])) := by
  intro t kt
  refine pre34 t ?_
  refine st36.trans ?_
  show Steps p.tables e below (T36.setTop (mkF m 161 #[vR a1, vR b1, vR a1, vI 0, vI 0, .unset, .unset] [(.ref b37)])) _
  exact kt
 obtain ⟨fs, hr, hrun, hended, hW, hsame⟩ := X36.leave (v := some (.ref b37)) (fun h => by rw [Bd.returns] at h; cases h)
 refine ⟨_, _, fin _ (pre55 _ ?_), hrun, hended, _, _, rfl, ?_, ⟨_, rfl⟩, hW, hsame.mono (by decide) (by decide)⟩
 ·jvm_step X36.here [X36.here.top, hx, (hb hby d1_161), X36.method', Bd.returns, Value.isRef, FieldType.isReference]
  first | (intro acts; rw [hr _ acts rfl rfl rfl]) | rw [hr _ _ rfl rfl rfl]
  exact Steps.refl _
 ·show Qenc0 Z a1 wC wF k1 h0 n0 _ T36.heap _
  exact ⟨b37, vb38, kb39, rfl, N36, kc54, sz47, g42⟩

theorem d1_24 : decode prog_35_method_5_code 24 = .ok (.aload_n 2, 1) := by decide +kernel
theorem d1_25 : decode prog_35_method_5_code 25 = .ok (.iload 4, 2) := by decide +kernel
theorem d1_27 : decode prog_35_method_5_code 27 = .ok (.baload, 1) := by decide +kernel
theorem d1_28 : decode prog_35_method_5_code 28 = .ok (.istore 5, 2) := by decide +kernel
theorem d1_30 : decode prog_35_method_5_code 30 = .ok (.iload 5, 2) := by decide +kernel
theorem d1_32 : decode prog_35_method_5_code 32 = .ok (.sipush 255, 3) := by decide +kernel
theorem d1_35 : decode prog_35_method_5_code 35 = .ok (.iand, 1) := by decide +kernel
theorem d1_36 : decode prog_35_method_5_code 36 = .ok (.i2c, 1) := by decide +kernel
theorem d1_37 : decode prog_35_method_5_code 37 = .ok (.istore 6, 2) := by decide +kernel
theorem d1_109 : decode prog_35_method_5_code 109 = .ok (.aload_n 1, 1) := by decide +kernel
theorem d1_110 : decode prog_35_method_5_code 110 = .ok (.iload 6, 2) := by decide +kernel
theorem d1_112 : decode prog_35_method_5_code 112 = .ok (.invokevirtual 104, 3) := by decide +kernel
theorem d1_115 : decode prog_35_method_5_code 115 = .ok (.pop, 1) := by decide +kernel
theorem d1_116 : decode prog_35_method_5_code 116 = .ok (.goto 35, 3) := by decide +kernel
theorem d1_119 : decode prog_35_method_5_code 119 = .ok (.aload_n 1, 1) := by decide +kernel
theorem d1_120 : decode prog_35_method_5_code 120 = .ok (.bipush 37, 2) := by decide +kernel
theorem d1_122 : decode prog_35_method_5_code 122 = .ok (.invokevirtual 104, 3) := by decide +kernel
theorem d1_125 : decode prog_35_method_5_code 125 = .ok (.ldc 108, 2) := by decide +kernel
theorem d1_127 : decode prog_35_method_5_code 127 = .ok (.iload 6, 2) := by decide +kernel
theorem d1_129 : decode prog_35_method_5_code 129 = .ok (.iconst 4, 1) := by decide +kernel
theorem d1_130 : decode prog_35_method_5_code 130 = .ok (.ishr, 1) := by decide +kernel
theorem d1_131 : decode prog_35_method_5_code 131 = .ok (.invokevirtual 110, 3) := by decide +kernel
theorem d1_134 : decode prog_35_method_5_code 134 = .ok (.invokevirtual 104, 3) := by decide +kernel
theorem d1_137 : decode prog_35_method_5_code 137 = .ok (.ldc 108, 2) := by decide +kernel
theorem d1_139 : decode prog_35_method_5_code 139 = .ok (.iload 6, 2) := by decide +kernel
theorem d1_141 : decode prog_35_method_5_code 141 = .ok (.bipush 15, 2) := by decide +kernel
theorem d1_143 : decode prog_35_method_5_code 143 = .ok (.iand, 1) := by decide +kernel
theorem d1_144 : decode prog_35_method_5_code 144 = .ok (.invokevirtual 110, 3) := by decide +kernel
theorem d1_147 : decode prog_35_method_5_code 147 = .ok (.invokevirtual 104, 3) := by decide +kernel
theorem d1_150 : decode prog_35_method_5_code 150 = .ok (.pop, 1) := by decide +kernel
theorem d1_151 : decode prog_35_method_5_code 151 = .ok (.iinc 4 1, 3) := by decide +kernel
theorem d1_154 : decode prog_35_method_5_code 154 = .ok (.goto (-136), 3) := by decide +kernel
theorem pd_18 : parseMethodDescriptor "(C)Ljava/lang/StringBuilder;" = some ⟨[.char], some (.object "java/lang/StringBuilder")⟩ := by decide +kernel
theorem pd_19 : parseMethodDescriptor "(I)C" = some ⟨[.int], some .char⟩ := by decide +kernel
theorem ef_enc1 (m : MethodId) (x0 : Addr) : entryFrame m #[(.ref x0)] 7 = mkF m 0 #[vR x0, .unset, .unset, .unset, .unset, .unset, .unset] [] := by first | (simp [entryFrame, mkF, argsToLocals, Value.category]; done) | rfl
def Qenc1 (Z : State) (a1 : Addr) (wC : Int32) (wF : Value) (k1 : ClassId) (u0 : Int32) (h0 : Heap) (n0 : Nat) (v : Option Value) (h : Heap) (L : List Loc) : Prop := ∃ b : Addr, ∃ vb : Addr, ∃ kb : ClassId, v = (some (.ref b)) ∧ Fr n0 L ∧ Keep h0 h [] ∧ h0.size ≤ b ∧ own_StrL Z h b vb kb (own_enc1 u0)
set_option maxRecDepth 65536 in
set_option maxHeartbeats 40000000 in
theorem rmenc1 (l : Launch) (Z : State) (a0 : Array Value) (hw : ∀ d ∈ tables_1, d.before a0 Z = true) (ws : List Jvm.Cond) (a1 : Addr) (wC : Int32) (wF : Value) (k1 : ClassId) (u0 : Int32) (h0 : Heap) (n0 : Nat) (Z0 : n0 ≤ h0.size) (O0 : Old Z n0 h0) (qC : (own_SC Z wC)) (qF : (own_SF Z wF)) (V1 : Arv Z h0 a1 k1 .byte (1 : Int32) [(.int u0)] (.int 0)) :
  MetFree l own_m0 (head1 (Jvm.Cond.code own_m0 prog_35_method_5_code 7 (some (.object "java/lang/String")) :: ws) (own_r 7 9 140 117)) (fun a U => a = #[(.ref a1)] ∧ Z.Warmed39 U.vm ∧ U.heap = h0 ∧ CHv Z own_EL U.vm h0 ∧ ∀ x ∈ ([] : List Addr), Safe Z own_EL U.vm h0 x) (fun _ _ _ _ _ => True) (fun _ U o U' => ∃ v L, o = .returned v ∧ Qenc1 Z a1 wC wF k1 u0 h0 n0 v U'.heap L ∧ CHr Z own_EL U.vm U.heap U'.vm U'.heap ∧ ReturnedEndW U o U' L (own_r 7 9 140 117).cells (own_r 7 9 140 117).slots) := by
 refine MetFree.of_bodySF (plainFor_of_name pn_1) hisR ?_
 intro p e s m args below meth c s₁ Bd hml0 hP hK
 have H : ∀ (i : Nat) {d : Jvm.Cond}, tables_1[i]? = some d → d.before a0 Z = true := fun i _ h => hw _ (own_w i h)
 obtain ⟨rfl, hZ, hh, hCH, hSF⟩ := hP
 have hx := Bd.exec
 have hby := Bd.bytes
 have hml : c.maxLocals = 7 := hml0
 have hown0 := findClass_of_methodNamed Bd.named
 have hown : s.vm.findClass "com/example/permgrid/permgrid/PercentEncoding" = some m.cls := hown0
 have hnm := (name_of_methodNamed Bd.named Bd.method).1
 have X0 : Stand p l e (own_r 7 9 140 117) s m #[(.ref a1)] below meth c s₁ [] 0 0 := Stand.of_body Bd
 have e0 : s₁.heap = h0 := by rw [← hh, Bd.state]; rfl
 have N0 := Fr.nil n0
 obtain ⟨S0, hS0⟩ : ∃ z, z = s₁.setTop (entryFrame m #[(.ref a1)] 7) := ⟨_, rfl⟩
 have pre0 : own_Go p e below S0 (s₁.setTop (mkF m 0 #[vR a1, .unset, .unset, .unset, .unset, .unset, .unset] [])) := fun t k => by rw [hS0]; exact castTop (ef_enc1 m a1) k
 have fin : ∀ t, Steps p.tables e below S0 t → Steps p.tables e below (s₁.setTop (entryFrame m #[(.ref a1)] 7)) t := fun t k => by rw [hS0] at k; exact k
 have ch0 : CHr Z own_EL s.vm h0 s.vm h0 := CHr.refl hCH
 have kc0 : Keep h0 h0 [] := Keep.refl _ _
 obtain ⟨T1, h1, X1, e1, E1, A1, D1, -, st1⟩ := newO X0 hx hZ hown (H 5 rfl) (H 6 rfl) (H 7 rfl) e0 (g := (own_top pre0)) rfl (hb hby d1_0) (by decide) (by decide)
 obtain ⟨b1, g1⟩ : ∃ z, z = h0.size := ⟨_, rfl⟩
 rw [← g1] at A1 D1 st1
 have ne2 : a1 ≠ b1 := Nat.ne_of_lt (Nat.lt_of_lt_of_le V1.lt (Nat.le_of_eq g1.symm))
 have ge3 : n0 ≤ b1 := Nat.le_trans Z0 (Nat.le_of_eq g1.symm)
 have sf4 : Safe Z own_EL s.vm h0 b1 := Safe.new (Nat.le_of_eq g1.symm)
 have sz5 : h0.size ≤ b1 := Nat.le_trans kc0.1 (Nat.le_of_eq g1.symm)
 have zs6 : n0 ≤ h1.size := Nat.le_trans Z0 E1.1
 have kc7 : Keep h0 h1 [] := kc0.ext E1
 have ch8 : CHr Z own_EL s.vm h0 s.vm h1 := ch0.trans (CHr.ext E1 ch0.1)
 have sf9 : Safe Z own_EL s.vm h1 b1 := Safe.ext E1 ch0.1 sf4
 have fd10 : Fld Z h1 b1 "java/lang/AbstractStringBuilder" "value" "[B" .null := D1 (Or.inl (H 23 rfl)) (ty := (.array .byte)) (by decide)
 have fd11 : Fld Z h1 b1 "java/lang/AbstractStringBuilder" "coder" "B" (.int 0) := D1 (Or.inl (H 25 rfl)) (ty := .byte) (by decide)
 have fd12 : Fld Z h1 b1 "java/lang/AbstractStringBuilder" "count" "I" (.int 0) := D1 (Or.inl (H 56 rfl)) (ty := .int) (by decide)
 have pre13 : own_Go p e below S0 (T1.setTop (mkF m 5 #[vR a1, .unset, .unset, .unset, .unset, .unset, .unset] [(.ref a1), (.ref b1), (.ref b1)])) := by
  intro t kt
  refine pre0 t ?_
  refine st1 _ ?_
  refine XS.dup X1.here hx rfl (hb hby d1_3) rfl rfl ?_
  refine XS.aloadN X1.here hx rfl (hb hby d1_4) rfl rfl ?_
  exact kt
 have f14 : Arv Z h1 a1 k1 .byte (1 : Int32) [(.int u0)] (.int 0) := (V1.ext E1)
 obtain ⟨cl15, Ar15, -, Sz15, Ng15, -, -⟩ := id f14
 have pre16 : own_Go p e below S0 (T1.setTop (mkF m 6 #[vR a1, .unset, .unset, .unset, .unset, .unset, .unset] [(.int 1), (.ref b1), (.ref b1)])) := by
  intro t kt
  refine pre13 t ?_
  refine X1.arraylength hx (by rw [e1]; exact Ar15.1) (State.isArrayOf_alike hZ.alike Ar15.2.1) (g := (own_top pre13)) rfl rfl (hb hby d1_5) _ ?_
  rw [len_of Sz15 Ng15]
  show Steps p.tables e below (T1.setTop (mkF m 6 #[vR a1, .unset, .unset, .unset, .unset, .unset, .unset] [(.int 1), (.ref b1), (.ref b1)])) _
  exact kt
 have f17 : Old Z n0 h1 := (O0.ext E1)
 obtain ⟨_, _, ⟨T18, L18, k18, n18⟩, -, X18, ⟨Lc18, hQ18, l18, y18, z18⟩, st18⟩ := X1.specialBack hx (y := own_m20) rfl hown (mvT hZ (H 8 rfl)) (mvT hZ (H 9 rfl)) (mvT hZ (H 10 rfl)) (by decide) (backOf (W := 1) (rmsi1 l Z a0 hw [] b1 wC h1 n0 zs6 f17 qC A1 fd10 fd11 fd12 ge3) hZ (H 10 rfl) (H 7 rfl) (by decide) (by decide)) (g := (own_top pre16)) rfl (by rw [hml]; rfl) (Steps.refl _) (a := b1) (argsL := [(.int 1)]) (rest := [(.ref b1)]) (lenOf pd_4 rfl) rfl (by show 2 * 0 + _ ≤ _; exact Nat.le_of_eq rfl) (hb hby d1_6) (fun _ _ => ⟨rfl, e1, (by decide : 1 + 1 ≤ _), (by decide : 4 + 1 ≤ _)⟩)
 dsimp only [Pt.U, Pt.locs, Pt.cells, Pt.slots] at X18 l18 y18 z18 st18 hQ18
 subst l18 y18 z18
 obtain ⟨b19, kb20, rfl, Nq18, K18, g21, g22, g23, g24, g25, g26, g27⟩ := hQ18
 have N18 := Fr.app N0 Nq18
 have ne28 : a1 ≠ b19 := Nat.ne_of_lt (Nat.lt_of_lt_of_le f14.lt g21)
 have ne29 : b1 ≠ b19 := Nat.ne_of_lt (Nat.lt_of_lt_of_le A1.lt g21)
 have ge30 : n0 ≤ b19 := Nat.le_trans zs6 g21
 have sf31 : Safe Z own_EL s.vm h1 b19 := Safe.new g21
 have sz32 : h0.size ≤ b19 := Nat.le_trans kc7.1 g21
 have zs33 : n0 ≤ T18.heap.size := Nat.le_trans zs6 K18.1
 have kc34 : Keep h0 T18.heap [] := kc7.trans K18 (allS (Or.inr sz5) all0)
 have ch35 : CHr Z own_EL s.vm h0 s.vm T18.heap := ch8.trans (CHr.keep K18 (allS sf9 all0) ch8.1)
 have sf36 : Safe Z own_EL s.vm T18.heap b1 := Safe.keep K18 (allS sf9 all0) ch8.1 sf9
 have sf37 : Safe Z own_EL s.vm T18.heap b19 := Safe.keep K18 (allS sf9 all0) ch8.1 sf31
 have pre38 : own_Go p e below S0 (T18.setTop (mkF m 13 #[vR a1, vR b1, vR a1, .unset, .unset, .unset, .unset] [(.ref a1)])) := by
  intro t kt
  refine pre16 t ?_
  refine st18.trans ?_
  show Steps p.tables e below (T18.setTop (mkF m 9 #[vR a1, .unset, .unset, .unset, .unset, .unset, .unset] [(.ref b1)])) _
  refine XS.astoreN X18.here hx rfl (hb hby d1_9) rfl rfl (l' := #[vR a1, vR b1, .unset, .unset, .unset, .unset, .unset]) rfl ?_
  refine XS.aloadN X18.here hx rfl (hb hby d1_10) rfl rfl ?_
  refine XS.astoreN X18.here hx rfl (hb hby d1_11) rfl rfl (l' := #[vR a1, vR b1, vR a1, .unset, .unset, .unset, .unset]) rfl ?_
  refine XS.aloadN X18.here hx rfl (hb hby d1_12) rfl rfl ?_
  exact kt
 have f39 : Arv Z T18.heap a1 k1 .byte (1 : Int32) [(.int u0)] (.int 0) := (f14.keep K18 (ninS ne2 nin0))
 obtain ⟨cl40, Ar40, -, Sz40, Ng40, -, -⟩ := id f39
 have ft41 : own_Fit1 (1 : Int32) [(.int 0)] ([] : List Int32) := (Or.inl ⟨rfl, rfl, rfl⟩)
 have fc42 : Fld Z T18.heap b1 "java/lang/AbstractStringBuilder" "count" "I" (.int (own_len ([] : List Int32))) := g27
 have pre43 : own_Go p e below S0 (T18.setTop (mkF m 27 #[vR a1, vR b1, vR a1, vI 1, vI 0, .unset, .unset] [(.int 0), (.ref a1)])) := by
  intro t kt
  refine pre38 t ?_
  refine X18.arraylength hx Ar40.1 (State.isArrayOf_alike hZ.alike Ar40.2.1) (g := (own_top pre38)) rfl rfl (hb hby d1_13) _ ?_
  rw [len_of Sz40 Ng40]
  show Steps p.tables e below (T18.setTop (mkF m 14 #[vR a1, vR b1, vR a1, .unset, .unset, .unset, .unset] [(.int 1)])) _
  refine XS.istoreN X18.here hx rfl (hb hby d1_14) rfl (l' := #[vR a1, vR b1, vR a1, vI 1, .unset, .unset, .unset]) rfl ?_
  refine XS.iconst X18.here hx rfl (hb hby d1_15) ?_
  refine XS.istore X18.here hx rfl (hb hby d1_16) rfl (l' := #[vR a1, vR b1, vR a1, vI 1, vI 0, .unset, .unset]) rfl ?_
  refine XS.iload X18.here hx rfl (hb hby d1_18) rfl ?_
  refine XS.iloadN X18.here hx rfl (hb hby d1_20) rfl ?_
  refine XS.icmpNo X18.here hx rfl (hb hby d1_21) rfl (tlt (by decide : (0 : Int32) < (1 : Int32))).2.1 ?_
  refine XS.aloadN X18.here hx rfl (hb hby d1_24) rfl rfl ?_
  refine XS.iload X18.here hx rfl (hb hby d1_25) rfl ?_
  exact kt
 obtain ⟨cl44, Ar44, -, Sz44, -, Hs44, -⟩ := id f39
 have hin44 : ¬ ((0 : Int32) < 0 ∨ cl44.slots.size ≤ ((0 : Int32)).toNatClampNeg) := inb_of Sz44 ⟨by decide, by decide⟩
 have pre45 : own_Go p e below S0 (T18.setTop (mkF m 39 #[vR a1, vR b1, vR a1, vI 1, vI 0, vI u0, vI ((u0 &&& (255 : Int32)).toUInt32.toUInt16.toUInt32.toInt32)] [])) := by
  intro t kt
  refine pre43 t ?_
  refine X18.baloadBytes hx (j := (0 : Int32)) (v := (.int u0)) Ar44.1 (State.isArrayOf_alike hZ.alike Ar44.2.1) Ar44.2.2 hin44 (Hs44.at hin44 rfl) (g := (mkF m 27 #[vR a1, vR b1, vR a1, vI 1, vI 0, .unset, .unset] [(.int 0), (.ref a1)])) rfl rfl (hb hby d1_27) _ ?_
  refine XS.istore X18.here hx rfl (hb hby d1_28) rfl (l' := #[vR a1, vR b1, vR a1, vI 1, vI 0, vI u0, .unset]) rfl ?_
  refine XS.iload X18.here hx rfl (hb hby d1_30) rfl ?_
  refine XS.sipush X18.here hx rfl (hb hby d1_32) ?_
  refine XS.iand X18.here hx rfl (hb hby d1_35) rfl ?_
  refine XS.i2c X18.here hx rfl (hb hby d1_36) rfl ?_
  refine XS.istore X18.here hx rfl (hb hby d1_37) rfl (l' := #[vR a1, vR b1, vR a1, vI 1, vI 0, vI u0, vI ((u0 &&& (255 : Int32)).toUInt32.toUInt16.toUInt32.toInt32)]) rfl ?_
  exact kt
 have pre46 : own_Go p e below S0 (T18.setTop (mkF m 39 #[vR a1, vR b1, vR a1, vI 1, vI 0, vI u0, vI (own_cb u0)] [])) := by
  intro t kt
  refine pre45 t ?_
  rw [(rfl : ((u0 &&& (255 : Int32)).toUInt32.toUInt16.toUInt32.toInt32) = (own_cb u0))]
  exact kt
 obtain ⟨va1, kv1, zv1, lv1, Tj48, lj48, hj48, vmj48, knj48, Xj48, Nj48, ej48, Kj48, hSj48, hkj48, hZ, hown, chj48, sfj480, sfj481, pj227, qj228, qj229, qj230, qj231, qj232, qj233, qj234, qj235, qj236, qj237, prej48⟩ : ∃ (va1 : Addr) (kv1 : ClassId) (zv1 : Int32) (lv1 : List Value) (Tj48 : State) (lj48 : List Loc) (hj48 : Heap) (vmj48 : Vm) (knj48 : Nat), Stand p l e (own_r 7 9 140 117) (s.setVm vmj48) m #[(.ref a1)] below meth c Tj48 lj48 7 127 ∧ Fr n0 lj48 ∧ Tj48.heap = hj48 ∧ Keep T18.heap hj48 [b1, b19] ∧ s.Since vmj48 knj48 ∧ knj48 ≤ hj48.size ∧ Z.Warmed39 (s.setVm vmj48).vm ∧ (s.setVm vmj48).vm.findClass "com/example/permgrid/permgrid/PercentEncoding" = some m.cls ∧ CHr Z own_EL s.vm h0 vmj48 hj48 ∧ Safe Z own_EL vmj48 hj48 b1 ∧ Safe Z own_EL vmj48 hj48 va1 ∧ own_Fit1 zv1 lv1 (([] : List Int32) ++ (own_e1 u0)) ∧ n0 ≤ va1 ∧ b1 ≠ va1 ∧ Exa Z hj48 va1 "[B" ∧ Arv Z hj48 va1 kv1 .byte zv1 lv1 (.int 0) ∧ Exa Z hj48 b1 "java/lang/StringBuilder" ∧ Fld Z hj48 b1 "java/lang/AbstractStringBuilder" "value" "[B" (.ref va1) ∧ Fld Z hj48 b1 "java/lang/AbstractStringBuilder" "coder" "B" (.int 0) ∧ Fld Z hj48 b1 "java/lang/AbstractStringBuilder" "count" "I" (.int (own_len (([] : List Int32) ++ (own_e1 u0)))) ∧ (h0.size ≤ va1) ∧ a1 ≠ va1 ∧ own_Go p e below S0 (Tj48.setTop (mkF m 151 #[vR a1, vR b1, vR a1, vI 1, vI 0, vI u0, vI (own_cb u0)] [])) := by
  have kjj48 : Keep T18.heap T18.heap [b1, b19] := Keep.refl _ _
  by_cases hu47 : (own_unr (own_cb u0)) = (0 : Int32)
  ·have pre49 : own_Go p e below S0 (T18.setTop (mkF m 119 #[vR a1, vR b1, vR a1, vI 1, vI 0, vI u0, vI (own_cb u0)] [])) := fun t k => pre46 t ((own_test X18 hx hby _ _ _ _ _ _ _).1 hu47 t k)
   have pre50 : own_Go p e below S0 (T18.setTop (mkF m 122 #[vR a1, vR b1, vR a1, vI 1, vI 0, vI u0, vI (own_cb u0)] [(.int 37), (.ref b1)])) := by
    intro t kt
    refine pre49 t ?_
    refine XS.aloadN X18.here hx rfl (hb hby d1_119) rfl rfl ?_
    refine XS.bipush X18.here hx rfl (hb hby d1_120) ?_
    exact kt
   have lt51 : a1 < T18.heap.size := f39.lt
   have lt52 : b1 < T18.heap.size := g24.lt
   have f53 : Old Z n0 T18.heap := (f17.keep K18 (allS ge3 all0))
   obtain ⟨cq54, kq54, qa54, qb54, qc54⟩ := isOf hZ rfl g24
   obtain ⟨_, _, ⟨T54, L54, k54, n54⟩, -, X54, ⟨Lc54, hQ54, l54, y54, z54⟩, st54⟩ := X18.virtualBack hx (y := own_m21) (z := own_m21) hown (mvT hZ (H 90 rfl)) (mvT hZ (H 91 rfl)) (notFace_of_selects (args := #[]) (mvT hZ (H 93 rfl))) (mvT hZ (H 93 rfl)) (mvT hZ (H 92 rfl)) (by decide) (backOf (W := 0) (rmsaA1 l Z a0 hw [] b1 (37 : Int32) wC b19 kb20 (1 : Int32) [(.int 0)] ([] : List Int32) T18.heap n0 zs33 f53 qC g24 g25 g26 fc42 g22 g23 ge3 ge30 ne29 ft41 (by simp only [List.length_append, List.length_cons, List.length_nil]; omega) (by decide)) hZ (H 94 rfl) (H 7 rfl) (by decide) (by decide)) qa54 qc54 (g := (own_top pre50)) rfl (by rw [hml]; rfl) (Steps.refl _) (argsL := [(.int 37)]) (rest := []) (lenOf pd_18 rfl) rfl (by show 2 * 0 + _ ≤ _; exact Nat.le_of_eq rfl) (hb hby d1_122) (fun _ _ => ⟨rfl, rfl, (by decide : 2 + 1 ≤ _), (by decide : 5 + 18 ≤ _)⟩)
   dsimp only [Pt.U, Pt.locs, Pt.cells, Pt.slots] at X54 l54 y54 z54 st54 hQ54
   subst l54 y54 z54
   obtain ⟨vb55, kb56, z257, vs258, rfl, Nq54, K54, g59, g60, g61, g62, g63, g64, g65, g66, g67, g68⟩ := hQ54
   have N54 := Fr.app N18 Nq54
   have zs69 : n0 ≤ T54.heap.size := Nat.le_trans zs33 K54.1
   have kc70 : Keep h0 T54.heap [] := kc34.trans K54 (allS (Or.inr sz5) (allS (Or.inr sz32) all0))
   have kc71 : Keep T18.heap T54.heap [b1, b19] := kjj48.trans K54 (allS (Or.inl (List.mem_of_getElem? (i := 0) rfl)) (allS (Or.inl (List.mem_of_getElem? (i := 1) rfl)) all0))
   have ch72 : CHr Z own_EL s.vm h0 s.vm T54.heap := ch35.trans (CHr.keep K54 (allS sf36 (allS sf37 all0)) ch35.1)
   have sf73 : Safe Z own_EL s.vm T54.heap b1 := Safe.keep K54 (allS sf36 (allS sf37 all0)) ch35.1 sf36
   have sf74 : Safe Z own_EL s.vm T54.heap b19 := Safe.keep K54 (allS sf36 (allS sf37 all0)) ch35.1 sf37
   have ne75 : a1 ≠ vb55 := by
    rcases g59 with q | q
    ·rw [q]; exact ne28
    ·exact Nat.ne_of_lt (Nat.lt_of_lt_of_le lt51 q)
   have ne76 : b1 ≠ vb55 := by
    rcases g59 with q | q
    ·rw [q]; exact ne29
    ·exact Nat.ne_of_lt (Nat.lt_of_lt_of_le lt52 q)
   have sz77 : h0.size ≤ vb55 := by
    rcases g59 with q | q
    ·rw [q]; exact sz32
    ·exact Nat.le_trans kc34.1 q
   have sd78 : vb55 ∈ [b1, b19] ∨ T18.heap.size ≤ vb55 := by
    rcases g59 with q | q
    ·rw [q]; exact Or.inl (List.mem_of_getElem? (i := 1) rfl)
    ·exact Or.inr (Nat.le_trans kjj48.1 q)
   have sf79 : Safe Z own_EL s.vm T54.heap vb55 := by
    rcases g59 with q | q
    ·rw [q]; exact sf74
    ·exact Safe.keep K54 (allS sf36 (allS sf37 all0)) ch35.1 (Safe.new q)
   have pre80 : own_Go p e below S0 (T54.setTop (mkF m 125 #[vR a1, vR b1, vR a1, vI 1, vI 0, vI u0, vI (own_cb u0)] [(.ref b1)])) := by
    intro t kt
    refine pre50 t ?_
    refine st54.trans ?_
    show Steps p.tables e below (T54.setTop (mkF m 125 #[vR a1, vR b1, vR a1, vI 1, vI 0, vI u0, vI (own_cb u0)] [(.ref b1)])) _
    exact kt
   have f81 : Exa Z T54.heap b19 "[B" := (g22.keep K54)
   obtain ⟨b82, T82, h82, k82, v82, kv82, X82, e82, E82, hS82, hk82, hZ, hown, xE82, xC82, xF82, xV82, -, -, cr82, L82, hne82, st82⟩ := ldcCH (s := s) (vm0 := s.vm) X54 hx hZ hown (H 109 rfl) (own_strAtoms a0 Z hw) rfl (own_since s 0) (Nat.zero_le _) (own_EW a0 Z hw) (List.mem_of_getElem? (i := 0) rfl) ch72.1 (vs := [(.int 48), (.int 49), (.int 50), (.int 51), (.int 52), (.int 53), (.int 54), (.int 55), (.int 56), (.int 57), (.int 65), (.int 66), (.int 67), (.int 68), (.int 69), (.int 70)]) (z := 16) own_ht0 (by decide) (by decide) (g := (own_top pre80)) rfl (hb hby d1_125) (n := 64) (by decide +kernel) (by decide) (by decide) (by decide)
   have zs83 : n0 ≤ h82.size := Nat.le_trans zs69 E82.1
   have kc84 : Keep h0 h82 [] := kc70.ext E82
   have kc85 : Keep T18.heap h82 [b1, b19] := kc71.ext E82
   have ch86 : CHr Z own_EL s.vm h0 T82.vm h82 := ch72.trans (cr82)
   have sf87 : Safe Z own_EL T82.vm h82 b1 := cr82.safe g65.lt sf73
   have sf88 : Safe Z own_EL T82.vm h82 b19 := cr82.safe f81.lt sf74
   have sf89 : Safe Z own_EL T82.vm h82 vb55 := cr82.safe g62.lt sf79
   have ne90 : b1 ≠ b82 := (hne82 _ sf87).1
   have ne91 : b1 ≠ v82 := (hne82 _ sf87).2
   have ne92 : b19 ≠ b82 := (hne82 _ sf88).1
   have ne93 : b19 ≠ v82 := (hne82 _ sf88).2
   have ne94 : vb55 ≠ b82 := (hne82 _ sf89).1
   have ne95 : vb55 ≠ v82 := (hne82 _ sf89).2
   have pre96 : own_Go p e below S0 (T82.setTop (mkF m 131 #[vR a1, vR b1, vR a1, vI 1, vI 0, vI u0, vI (own_cb u0)] [(.int ((own_cb u0) >>> ((4 : Int32) &&& 31))), (.ref b82), (.ref b1)])) := by
    intro t kt
    refine pre80 t ?_
    refine st82 _ ?_
    refine XS.iload X82.here hx rfl (hb hby d1_127) rfl ?_
    refine XS.iconst X82.here hx rfl (hb hby d1_129) ?_
    refine XS.ishr X82.here hx rfl (hb hby d1_130) rfl ?_
    exact kt
   have pre97 : own_Go p e below S0 (T82.setTop (mkF m 131 #[vR a1, vR b1, vR a1, vI 1, vI 0, vI u0, vI (own_cb u0)] [(.int (own_hi u0)), (.ref b82), (.ref b1)])) := by
    intro t kt
    refine pre96 t ?_
    rw [(rfl : ((own_cb u0) >>> ((4 : Int32) &&& 31)) = (own_hi u0))]
    exact kt
   have f98 : Old Z n0 h82 := ((f53.keep K54 (allS ge3 (allS ge30 all0))).ext E82)
   obtain ⟨cq99, kq99, qa99, qb99, qc99⟩ := isOf hZ e82 xE82
   obtain ⟨_, _, ⟨T99, L99, k99, n99⟩, -, X99, ⟨Lc99, hQ99, l99, y99, z99⟩, st99⟩ := X82.virtualBack hx (y := own_m15) (z := own_m15) hown (mvT hZ (H 112 rfl)) (mvT hZ (H 113 rfl)) (notFace_of_selects (args := #[]) (mvT hZ (H 115 rfl))) (mvT hZ (H 115 rfl)) (mvT hZ (H 114 rfl)) (by decide) (backOf (W := 1) (rmchA l Z a0 hw [] b82 (own_hi u0) wC wF v82 kv82 (16 : Int32) [(.int 48), (.int 49), (.int 50), (.int 51), (.int 52), (.int 53), (.int 54), (.int 55), (.int 56), (.int 57), (.int 65), (.int 66), (.int 67), (.int 68), (.int 69), (.int 70)] (.int 0) (own_hexb (own_hi u0)) h82 n0 zs83 f98 qC qF xE82 xC82 xF82 xV82 (own_ix16 (own_hiR _)).1 (own_ix16 (own_hiR _)).2 (own_hexT (own_hiR _))) hZ (H 116 rfl) (H 21 rfl) (by decide) (by decide)) qa99 qc99 (g := (own_top pre97)) rfl (by rw [hml]; rfl) (Steps.refl _) (argsL := [(.int (own_hi u0))]) (rest := [(.ref b1)]) (lenOf pd_19 rfl) rfl (by show 2 * 0 + _ ≤ _; exact Nat.le_of_eq rfl) (hb hby d1_131) (fun _ _ => ⟨rfl, e82, (by decide : 5 + 0 ≤ _), (by decide : 91 + 0 ≤ _)⟩)
   dsimp only [Pt.U, Pt.locs, Pt.cells, Pt.slots] at X99 l99 y99 z99 st99 hQ99
   subst l99 y99 z99
   obtain ⟨rfl, Nq99, eq99⟩ := hQ99
   have N99 := Fr.app N54 Nq99
   have pre100 : own_Go p e below S0 (T99.setTop (mkF m 134 #[vR a1, vR b1, vR a1, vI 1, vI 0, vI u0, vI (own_cb u0)] [(.int (own_lc (own_hexb (own_hi u0)))), (.ref b1)])) := by
    intro t kt
    refine pre97 t ?_
    refine st99.trans ?_
    show Steps p.tables e below (T99.setTop (mkF m 134 #[vR a1, vR b1, vR a1, vI 1, vI 0, vI u0, vI (own_cb u0)] [(.int (own_lc (own_hexb (own_hi u0)))), (.ref b1)])) _
    exact kt
   have f102 : Arv Z h82 a1 k1 .byte (1 : Int32) [(.int u0)] (.int 0) := ((f39.keep K54 (ninS ne2 (ninS ne28 nin0))).ext E82)
   have lt101 : a1 < h82.size := f102.lt
   have f104 : Exa Z h82 b1 "java/lang/StringBuilder" := (g65.ext E82)
   have lt103 : b1 < h82.size := f104.lt
   have f106 : Exa Z h82 b19 "[B" := (f81.ext E82)
   have lt105 : b19 < h82.size := f106.lt
   have lt107 : b82 < h82.size := xE82.lt
   have lt108 : v82 < h82.size := xV82.lt
   have f109 : Fld Z h82 b1 "java/lang/AbstractStringBuilder" "value" "[B" (.ref vb55) := (g66.ext E82)
   have f110 : Fld Z h82 b1 "java/lang/AbstractStringBuilder" "coder" "B" (.int 0) := (g67.ext E82)
   have f111 : Fld Z h82 b1 "java/lang/AbstractStringBuilder" "count" "I" (.int (own_len (([] : List Int32) ++ [(37 : Int32)]))) := (g68.ext E82)
   have f112 : Exa Z h82 vb55 "[B" := (g62.ext E82)
   have f113 : Arv Z h82 vb55 kb56 .byte z257 vs258 (.int 0) := (g63.ext E82)
   obtain ⟨cq114, kq114, qa114, qb114, qc114⟩ := isOf hZ eq99 f104
   obtain ⟨_, _, ⟨T114, L114, k114, n114⟩, -, X114, ⟨Lc114, hQ114, l114, y114, z114⟩, st114⟩ := X99.virtualBack hx (y := own_m21) (z := own_m21) hown (mvT hZ (H 90 rfl)) (mvT hZ (H 91 rfl)) (notFace_of_selects (args := #[]) (mvT hZ (H 93 rfl))) (mvT hZ (H 93 rfl)) (mvT hZ (H 92 rfl)) (by decide) (backOf (W := 0) (rmsaA1 l Z a0 hw [] b1 (own_lc (own_hexb (own_hi u0))) wC vb55 kb56 z257 vs258 (([] : List Int32) ++ [(37 : Int32)]) h82 n0 zs83 f98 qC f104 f109 f110 f111 f112 f113 ge3 g60 g61 g64 (by simp only [List.length_append, List.length_cons, List.length_nil]; omega) (own_canR (own_lcR _).2)) hZ (H 94 rfl) (H 7 rfl) (by decide) (by decide)) qa114 qc114 (g := (own_top pre100)) rfl (by rw [hml]; rfl) (Steps.refl _) (argsL := [(.int (own_lc (own_hexb (own_hi u0))))]) (rest := []) (lenOf pd_18 rfl) rfl (by show 2 * 0 + _ ≤ _; exact Nat.le_of_eq rfl) (hb hby d1_134) (fun _ _ => ⟨rfl, eq99, (by decide : 5 + 1 ≤ _), (by decide : 91 + 18 ≤ _)⟩)
   dsimp only [Pt.U, Pt.locs, Pt.cells, Pt.slots] at X114 l114 y114 z114 st114 hQ114
   subst l114 y114 z114
   obtain ⟨vb115, kb116, z2117, vs2118, rfl, Nq114, K114, g119, g120, g121, g122, g123, g124, g125, g126, g127, g128⟩ := hQ114
   have N114 := Fr.app N99 Nq114
   have zs129 : n0 ≤ T114.heap.size := Nat.le_trans zs83 K114.1
   have kc130 : Keep h0 T114.heap [] := kc84.trans K114 (allS (Or.inr sz5) (allS (Or.inr sz77) all0))
   have kc131 : Keep T18.heap T114.heap [b1, b19] := kc85.trans K114 (allS (Or.inl (List.mem_of_getElem? (i := 0) rfl)) (allS sd78 all0))
   have hk132 : _ ≤ T114.heap.size := Nat.le_trans hk82 K114.1
   have ch133 : CHr Z own_EL s.vm h0 T82.vm T114.heap := ch86.trans (CHr.keep K114 (allS sf87 (allS sf89 all0)) ch86.1)
   have sf134 : Safe Z own_EL T82.vm T114.heap b1 := Safe.keep K114 (allS sf87 (allS sf89 all0)) ch86.1 sf87
   have sf135 : Safe Z own_EL T82.vm T114.heap b19 := Safe.keep K114 (allS sf87 (allS sf89 all0)) ch86.1 sf88
   have sf136 : Safe Z own_EL T82.vm T114.heap vb55 := Safe.keep K114 (allS sf87 (allS sf89 all0)) ch86.1 sf89
   have ne137 : a1 ≠ vb115 := by
    rcases g119 with q | q
    ·rw [q]; exact ne75
    ·exact Nat.ne_of_lt (Nat.lt_of_lt_of_le lt101 q)
   have ne138 : b1 ≠ vb115 := by
    rcases g119 with q | q
    ·rw [q]; exact g61
    ·exact Nat.ne_of_lt (Nat.lt_of_lt_of_le lt103 q)
   have ne139 : b82 ≠ vb115 := by
    rcases g119 with q | q
    ·rw [q]; exact (Ne.symm ne94)
    ·exact Nat.ne_of_lt (Nat.lt_of_lt_of_le lt107 q)
   have ne140 : v82 ≠ vb115 := by
    rcases g119 with q | q
    ·rw [q]; exact (Ne.symm ne95)
    ·exact Nat.ne_of_lt (Nat.lt_of_lt_of_le lt108 q)
   have sz141 : h0.size ≤ vb115 := by
    rcases g119 with q | q
    ·rw [q]; exact sz77
    ·exact Nat.le_trans kc84.1 q
   have sd142 : vb115 ∈ [b1, b19] ∨ T18.heap.size ≤ vb115 := by
    rcases g119 with q | q
    ·rw [q]; exact sd78
    ·exact Or.inr (Nat.le_trans kc85.1 q)
   have sf143 : Safe Z own_EL T82.vm T114.heap vb115 := by
    rcases g119 with q | q
    ·rw [q]; exact sf136
    ·exact Safe.keep K114 (allS sf87 (allS sf89 all0)) ch86.1 (Safe.new q)
   have pre144 : own_Go p e below S0 (T114.setTop (mkF m 137 #[vR a1, vR b1, vR a1, vI 1, vI 0, vI u0, vI (own_cb u0)] [(.ref b1)])) := by
    intro t kt
    refine pre100 t ?_
    refine st114.trans ?_
    show Steps p.tables e below (T114.setTop (mkF m 137 #[vR a1, vR b1, vR a1, vI 1, vI 0, vI u0, vI (own_cb u0)] [(.ref b1)])) _
    exact kt
   have pre145 : own_Go p e below S0 (T114.setTop (mkF m 144 #[vR a1, vR b1, vR a1, vI 1, vI 0, vI u0, vI (own_cb u0)] [(.int ((own_cb u0) &&& (15 : Int32))), (.ref b82), (.ref b1)])) := by
    intro t kt
    refine pre144 t ?_
    refine ldcAgain (s := s) (vm0 := T82.vm) X114 hx hZ hown (H 109 rfl) L82 (g := (own_top pre144)) rfl (hb hby d1_137) _ ?_
    refine XS.iload X114.here hx rfl (hb hby d1_139) rfl ?_
    refine XS.bipush X114.here hx rfl (hb hby d1_141) ?_
    refine XS.iand X114.here hx rfl (hb hby d1_143) rfl ?_
    exact kt
   have pre146 : own_Go p e below S0 (T114.setTop (mkF m 144 #[vR a1, vR b1, vR a1, vI 1, vI 0, vI u0, vI (own_cb u0)] [(.int (own_lo u0)), (.ref b82), (.ref b1)])) := by
    intro t kt
    refine pre145 t ?_
    rw [(rfl : ((own_cb u0) &&& (15 : Int32)) = (own_lo u0))]
    exact kt
   have f147 : Old Z n0 T114.heap := (f98.keep K114 (allS ge3 (allS g60 all0)))
   have f148 : Exa Z T114.heap b82 "java/lang/String" := (xE82.keep K114)
   have f149 : Fld Z T114.heap b82 "java/lang/String" "coder" "B" (.int 0) := (xC82.keep K114 (ninS (Ne.symm ne90) (ninS (Ne.symm ne94) nin0)))
   have f150 : Fld Z T114.heap b82 "java/lang/String" "value" "[B" (.ref v82) := (xF82.keep K114 (ninS (Ne.symm ne90) (ninS (Ne.symm ne94) nin0)))
   have f151 : Arv Z T114.heap v82 kv82 .byte (16 : Int32) [(.int 48), (.int 49), (.int 50), (.int 51), (.int 52), (.int 53), (.int 54), (.int 55), (.int 56), (.int 57), (.int 65), (.int 66), (.int 67), (.int 68), (.int 69), (.int 70)] (.int 0) := (xV82.keep K114 (ninS (Ne.symm ne91) (ninS (Ne.symm ne95) nin0)))
   obtain ⟨cq152, kq152, qa152, qb152, qc152⟩ := isOf hZ rfl f148
   obtain ⟨_, _, ⟨T152, L152, k152, n152⟩, -, X152, ⟨Lc152, hQ152, l152, y152, z152⟩, st152⟩ := X114.virtualBack hx (y := own_m15) (z := own_m15) hown (mvT hZ (H 112 rfl)) (mvT hZ (H 113 rfl)) (notFace_of_selects (args := #[]) (mvT hZ (H 115 rfl))) (mvT hZ (H 115 rfl)) (mvT hZ (H 114 rfl)) (by decide) (backOf (W := 1) (rmchA l Z a0 hw [] b82 (own_lo u0) wC wF v82 kv82 (16 : Int32) [(.int 48), (.int 49), (.int 50), (.int 51), (.int 52), (.int 53), (.int 54), (.int 55), (.int 56), (.int 57), (.int 65), (.int 66), (.int 67), (.int 68), (.int 69), (.int 70)] (.int 0) (own_hexb (own_lo u0)) T114.heap n0 zs129 f147 qC qF f148 f149 f150 f151 (own_ix16 (own_loR _)).1 (own_ix16 (own_loR _)).2 (own_hexT (own_loR _))) hZ (H 116 rfl) (H 21 rfl) (by decide) (by decide)) qa152 qc152 (g := (own_top pre146)) rfl (by rw [hml]; rfl) (Steps.refl _) (argsL := [(.int (own_lo u0))]) (rest := [(.ref b1)]) (lenOf pd_19 rfl) rfl (by show 2 * 0 + _ ≤ _; exact Nat.le_of_eq rfl) (hb hby d1_144) (fun _ _ => ⟨rfl, rfl, (by decide : 6 + 0 ≤ _), (by decide : 109 + 0 ≤ _)⟩)
   dsimp only [Pt.U, Pt.locs, Pt.cells, Pt.slots] at X152 l152 y152 z152 st152 hQ152
   subst l152 y152 z152
   obtain ⟨rfl, Nq152, eq152⟩ := hQ152
   have N152 := Fr.app N114 Nq152
   have pre153 : own_Go p e below S0 (T152.setTop (mkF m 147 #[vR a1, vR b1, vR a1, vI 1, vI 0, vI u0, vI (own_cb u0)] [(.int (own_lc (own_hexb (own_lo u0)))), (.ref b1)])) := by
    intro t kt
    refine pre146 t ?_
    refine st152.trans ?_
    show Steps p.tables e below (T152.setTop (mkF m 147 #[vR a1, vR b1, vR a1, vI 1, vI 0, vI u0, vI (own_cb u0)] [(.int (own_lc (own_hexb (own_lo u0)))), (.ref b1)])) _
    exact kt
   have f155 : Arv Z T114.heap a1 k1 .byte (1 : Int32) [(.int u0)] (.int 0) := (f102.keep K114 (ninS ne2 (ninS ne75 nin0)))
   have lt154 : a1 < T114.heap.size := f155.lt
   have lt156 : b1 < T114.heap.size := g125.lt
   have f158 : Exa Z T114.heap b19 "[B" := (f106.keep K114)
   have lt157 : b19 < T114.heap.size := f158.lt
   have f160 : Exa Z T114.heap vb55 "[B" := (f112.keep K114)
   have lt159 : vb55 < T114.heap.size := f160.lt
   have lt161 : b82 < T114.heap.size := f148.lt
   have lt162 : v82 < T114.heap.size := f151.lt
   obtain ⟨cq163, kq163, qa163, qb163, qc163⟩ := isOf hZ eq152 g125
   obtain ⟨_, _, ⟨T163, L163, k163, n163⟩, -, X163, ⟨Lc163, hQ163, l163, y163, z163⟩, st163⟩ := X152.virtualBack hx (y := own_m21) (z := own_m21) hown (mvT hZ (H 90 rfl)) (mvT hZ (H 91 rfl)) (notFace_of_selects (args := #[]) (mvT hZ (H 93 rfl))) (mvT hZ (H 93 rfl)) (mvT hZ (H 92 rfl)) (by decide) (backOf (W := 0) (rmsaA1 l Z a0 hw [] b1 (own_lc (own_hexb (own_lo u0))) wC vb115 kb116 z2117 vs2118 ((([] : List Int32) ++ [(37 : Int32)]) ++ [(own_lc (own_hexb (own_hi u0)))]) T114.heap n0 zs129 f147 qC g125 g126 g127 g128 g122 g123 ge3 g120 g121 g124 (by simp only [List.length_append, List.length_cons, List.length_nil]; omega) (own_canR (own_lcR _).2)) hZ (H 94 rfl) (H 7 rfl) (by decide) (by decide)) qa163 qc163 (g := (own_top pre153)) rfl (by rw [hml]; rfl) (Steps.refl _) (argsL := [(.int (own_lc (own_hexb (own_lo u0))))]) (rest := []) (lenOf pd_18 rfl) rfl (by show 2 * 0 + _ ≤ _; exact Nat.le_of_eq rfl) (hb hby d1_147) (fun _ _ => ⟨rfl, eq152, (by decide : 6 + 1 ≤ _), (by decide : 109 + 18 ≤ _)⟩)
   dsimp only [Pt.U, Pt.locs, Pt.cells, Pt.slots] at X163 l163 y163 z163 st163 hQ163
   subst l163 y163 z163
   obtain ⟨vb164, kb165, z2166, vs2167, rfl, Nq163, K163, g168, g169, g170, g171, g172, g173, g174, g175, g176, g177⟩ := hQ163
   have N163 := Fr.app N152 Nq163
   have zs178 : n0 ≤ T163.heap.size := Nat.le_trans zs129 K163.1
   have kc179 : Keep h0 T163.heap [] := kc130.trans K163 (allS (Or.inr sz5) (allS (Or.inr sz141) all0))
   have kc180 : Keep T18.heap T163.heap [b1, b19] := kc131.trans K163 (allS (Or.inl (List.mem_of_getElem? (i := 0) rfl)) (allS sd142 all0))
   have hk181 : _ ≤ T163.heap.size := Nat.le_trans hk132 K163.1
   have ch182 : CHr Z own_EL s.vm h0 T82.vm T163.heap := ch133.trans (CHr.keep K163 (allS sf134 (allS sf143 all0)) ch133.1)
   have sf183 : Safe Z own_EL T82.vm T163.heap b1 := Safe.keep K163 (allS sf134 (allS sf143 all0)) ch133.1 sf134
   have sf184 : Safe Z own_EL T82.vm T163.heap b19 := Safe.keep K163 (allS sf134 (allS sf143 all0)) ch133.1 sf135
   have sf185 : Safe Z own_EL T82.vm T163.heap vb55 := Safe.keep K163 (allS sf134 (allS sf143 all0)) ch133.1 sf136
   have sf186 : Safe Z own_EL T82.vm T163.heap vb115 := Safe.keep K163 (allS sf134 (allS sf143 all0)) ch133.1 sf143
   have ne187 : a1 ≠ vb164 := by
    rcases g168 with q | q
    ·rw [q]; exact ne137
    ·exact Nat.ne_of_lt (Nat.lt_of_lt_of_le lt154 q)
   have ne188 : b1 ≠ vb164 := by
    rcases g168 with q | q
    ·rw [q]; exact g121
    ·exact Nat.ne_of_lt (Nat.lt_of_lt_of_le lt156 q)
   have ne189 : b82 ≠ vb164 := by
    rcases g168 with q | q
    ·rw [q]; exact ne139
    ·exact Nat.ne_of_lt (Nat.lt_of_lt_of_le lt161 q)
   have ne190 : v82 ≠ vb164 := by
    rcases g168 with q | q
    ·rw [q]; exact ne140
    ·exact Nat.ne_of_lt (Nat.lt_of_lt_of_le lt162 q)
   have sz191 : h0.size ≤ vb164 := by
    rcases g168 with q | q
    ·rw [q]; exact sz141
    ·exact Nat.le_trans kc130.1 q
   have sd192 : vb164 ∈ [b1, b19] ∨ T18.heap.size ≤ vb164 := by
    rcases g168 with q | q
    ·rw [q]; exact sd142
    ·exact Or.inr (Nat.le_trans kc131.1 q)
   have sf193 : Safe Z own_EL T82.vm T163.heap vb164 := by
    rcases g168 with q | q
    ·rw [q]; exact sf186
    ·exact Safe.keep K163 (allS sf134 (allS sf143 all0)) ch133.1 (Safe.new q)
   have pre194 : own_Go p e below S0 (T163.setTop (mkF m 151 #[vR a1, vR b1, vR a1, vI 1, vI 0, vI u0, vI (own_cb u0)] [])) := by
    intro t kt
    refine pre153 t ?_
    refine st163.trans ?_
    show Steps p.tables e below (T163.setTop (mkF m 150 #[vR a1, vR b1, vR a1, vI 1, vI 0, vI u0, vI (own_cb u0)] [(.ref b1)])) _
    refine XS.pop X163.here hx rfl (hb hby d1_150) rfl rfl ?_
    exact kt
   exact ⟨vb164, kb165, z2166, vs2167, T163, _, _, T82.vm, _, (Stand.mono X163 (by decide) (by decide)), N163, rfl, kc180, hS82, hk181, hZ, hown, ch182, sf183, sf193, ((show (((([] : List Int32) ++ [(37 : Int32)]) ++ [(own_lc (own_hexb (own_hi u0)))]) ++ [(own_lc (own_hexb (own_lo u0)))]) = (([] : List Int32) ++ (own_e1 u0)) from by rw [show own_e1 u0 = [37, own_lc (own_hexb (own_hi u0)), own_lc (own_hexb (own_lo u0))] from by rw [own_e1, if_pos hu47]] <;> simp) ▸ g173), g169, g170, g171, g172, g174, g175, g176, ((show (((([] : List Int32) ++ [(37 : Int32)]) ++ [(own_lc (own_hexb (own_hi u0)))]) ++ [(own_lc (own_hexb (own_lo u0)))]) = (([] : List Int32) ++ (own_e1 u0)) from by rw [show own_e1 u0 = [37, own_lc (own_hexb (own_hi u0)), own_lc (own_hexb (own_lo u0))] from by rw [own_e1, if_pos hu47]] <;> simp) ▸ g177), sz191, ne187, pre194⟩
  ·have pre195 : own_Go p e below S0 (T18.setTop (mkF m 109 #[vR a1, vR b1, vR a1, vI 1, vI 0, vI u0, vI (own_cb u0)] [])) := fun t k => pre46 t ((own_test X18 hx hby _ _ _ _ _ _ _).2 hu47 t k)
   have pre196 : own_Go p e below S0 (T18.setTop (mkF m 112 #[vR a1, vR b1, vR a1, vI 1, vI 0, vI u0, vI (own_cb u0)] [(.int (own_cb u0)), (.ref b1)])) := by
    intro t kt
    refine pre195 t ?_
    refine XS.aloadN X18.here hx rfl (hb hby d1_109) rfl rfl ?_
    refine XS.iload X18.here hx rfl (hb hby d1_110) rfl ?_
    exact kt
   have lt197 : a1 < T18.heap.size := f39.lt
   have lt198 : b1 < T18.heap.size := g24.lt
   have f199 : Old Z n0 T18.heap := (f17.keep K18 (allS ge3 all0))
   obtain ⟨cq200, kq200, qa200, qb200, qc200⟩ := isOf hZ rfl g24
   obtain ⟨_, _, ⟨T200, L200, k200, n200⟩, -, X200, ⟨Lc200, hQ200, l200, y200, z200⟩, st200⟩ := X18.virtualBack hx (y := own_m21) (z := own_m21) hown (mvT hZ (H 90 rfl)) (mvT hZ (H 91 rfl)) (notFace_of_selects (args := #[]) (mvT hZ (H 93 rfl))) (mvT hZ (H 93 rfl)) (mvT hZ (H 92 rfl)) (by decide) (backOf (W := 0) (rmsaA1 l Z a0 hw [] b1 (own_cb u0) wC b19 kb20 (1 : Int32) [(.int 0)] ([] : List Int32) T18.heap n0 zs33 f199 qC g24 g25 g26 fc42 g22 g23 ge3 ge30 ne29 ft41 (by simp only [List.length_append, List.length_cons, List.length_nil]; omega) (own_canR (own_cbR _).2)) hZ (H 94 rfl) (H 7 rfl) (by decide) (by decide)) qa200 qc200 (g := (own_top pre196)) rfl (by rw [hml]; rfl) (Steps.refl _) (argsL := [(.int (own_cb u0))]) (rest := []) (lenOf pd_18 rfl) rfl (by show 2 * 0 + _ ≤ _; exact Nat.le_of_eq rfl) (hb hby d1_112) (fun _ _ => ⟨rfl, rfl, (by decide : 2 + 1 ≤ _), (by decide : 5 + 18 ≤ _)⟩)
   dsimp only [Pt.U, Pt.locs, Pt.cells, Pt.slots] at X200 l200 y200 z200 st200 hQ200
   subst l200 y200 z200
   obtain ⟨vb201, kb202, z2203, vs2204, rfl, Nq200, K200, g205, g206, g207, g208, g209, g210, g211, g212, g213, g214⟩ := hQ200
   have N200 := Fr.app N18 Nq200
   have zs215 : n0 ≤ T200.heap.size := Nat.le_trans zs33 K200.1
   have kc216 : Keep h0 T200.heap [] := kc34.trans K200 (allS (Or.inr sz5) (allS (Or.inr sz32) all0))
   have kc217 : Keep T18.heap T200.heap [b1, b19] := kjj48.trans K200 (allS (Or.inl (List.mem_of_getElem? (i := 0) rfl)) (allS (Or.inl (List.mem_of_getElem? (i := 1) rfl)) all0))
   have ch218 : CHr Z own_EL s.vm h0 s.vm T200.heap := ch35.trans (CHr.keep K200 (allS sf36 (allS sf37 all0)) ch35.1)
   have sf219 : Safe Z own_EL s.vm T200.heap b1 := Safe.keep K200 (allS sf36 (allS sf37 all0)) ch35.1 sf36
   have sf220 : Safe Z own_EL s.vm T200.heap b19 := Safe.keep K200 (allS sf36 (allS sf37 all0)) ch35.1 sf37
   have ne221 : a1 ≠ vb201 := by
    rcases g205 with q | q
    ·rw [q]; exact ne28
    ·exact Nat.ne_of_lt (Nat.lt_of_lt_of_le lt197 q)
   have ne222 : b1 ≠ vb201 := by
    rcases g205 with q | q
    ·rw [q]; exact ne29
    ·exact Nat.ne_of_lt (Nat.lt_of_lt_of_le lt198 q)
   have sz223 : h0.size ≤ vb201 := by
    rcases g205 with q | q
    ·rw [q]; exact sz32
    ·exact Nat.le_trans kc34.1 q
   have sd224 : vb201 ∈ [b1, b19] ∨ T18.heap.size ≤ vb201 := by
    rcases g205 with q | q
    ·rw [q]; exact Or.inl (List.mem_of_getElem? (i := 1) rfl)
    ·exact Or.inr (Nat.le_trans kjj48.1 q)
   have sf225 : Safe Z own_EL s.vm T200.heap vb201 := by
    rcases g205 with q | q
    ·rw [q]; exact sf220
    ·exact Safe.keep K200 (allS sf36 (allS sf37 all0)) ch35.1 (Safe.new q)
   have pre226 : own_Go p e below S0 (T200.setTop (mkF m 151 #[vR a1, vR b1, vR a1, vI 1, vI 0, vI u0, vI (own_cb u0)] [])) := by
    intro t kt
    refine pre196 t ?_
    refine st200.trans ?_
    show Steps p.tables e below (T200.setTop (mkF m 115 #[vR a1, vR b1, vR a1, vI 1, vI 0, vI u0, vI (own_cb u0)] [(.ref b1)])) _
    refine XS.pop X200.here hx rfl (hb hby d1_115) rfl rfl ?_
    refine XS.goto X200.here hx rfl (pc0 := 116) (pc' := 151) rfl (hb hby d1_116) (by decide) (by decide) ?_
    exact kt
   exact ⟨vb201, kb202, z2203, vs2204, T200, _, _, s.vm, _, (Stand.mono X200 (by decide) (by decide)), N200, rfl, kc217, (own_since s 0), (Nat.zero_le _), hZ, hown, ch218, sf219, sf225, ((show (([] : List Int32) ++ [(own_cb u0)]) = (([] : List Int32) ++ (own_e1 u0)) from by rw [show own_e1 u0 = [own_cb u0] from by rw [own_e1, if_neg hu47]] <;> simp) ▸ g210), g206, g207, g208, g209, g211, g212, g213, ((show (([] : List Int32) ++ [(own_cb u0)]) = (([] : List Int32) ++ (own_e1 u0)) from by rw [show own_e1 u0 = [own_cb u0] from by rw [own_e1, if_neg hu47]] <;> simp) ▸ g214), sz223, ne221, pre226⟩
 have zs238 : n0 ≤ hj48.size := Nat.le_trans zs33 Kj48.1
 have kc239 : Keep h0 hj48 [] := kc34.trans Kj48 (allS (Or.inr sz5) (allS (Or.inr sz32) all0))
 have pre240 : own_Go p e below S0 (Tj48.setTop (mkF m 158 #[vR a1, vR b1, vR a1, vI 1, vI 1, vI u0, vI (own_cb u0)] [(.ref b1)])) := by
  intro t kt
  refine prej48 t ?_
  refine XS.iinc Xj48.here hx rfl (hb hby d1_151) rfl (l' := #[vR a1, vR b1, vR a1, vI 1, vI 1, vI u0, vI (own_cb u0)]) rfl ?_
  refine XS.goto Xj48.here hx rfl (pc0 := 154) (pc' := 18) rfl (hb hby d1_154) (by decide) (by decide) ?_
  refine XS.iload Xj48.here hx rfl (hb hby d1_18) rfl ?_
  refine XS.iloadN Xj48.here hx rfl (hb hby d1_20) rfl ?_
  refine XS.icmpYes Xj48.here hx rfl (pc0 := 21) (pc' := 157) rfl (hb hby d1_21) rfl (flt (by decide : ¬ ((1 : Int32) < (1 : Int32)))).2.1 (by decide) (by decide) ?_
  refine XS.aloadN Xj48.here hx rfl (hb hby d1_157) rfl rfl ?_
  exact kt
 have f241 : Old Z n0 hj48 := ((f17.keep K18 (allS ge3 all0)).keep Kj48 (allS ge3 (allS ge30 all0)))
 obtain ⟨cq242, kq242, qa242, qb242, qc242⟩ := isOf hZ ej48 qj232
 obtain ⟨_, _, ⟨T242, L242, k242, n242⟩, -, X242, ⟨Lc242, hQ242, l242, y242, z242⟩, st242⟩ := Xj48.virtualBack hx (y := own_m23) (z := own_m23) hown (mvT hZ (H 26 rfl)) (mvT hZ (H 27 rfl)) (notFace_of_selects (args := #[]) (mvT hZ (H 29 rfl))) (mvT hZ (H 29 rfl)) (mvT hZ (H 28 rfl)) (by decide) (backOf (W := 0) (rmts l Z a0 hw [] b1 wC va1 kv1 zv1 lv1 (([] : List Int32) ++ (own_e1 u0)) hj48 n0 zs238 f241 qC qj232 qj233 qj234 qj235 qj230 qj231 (own_fitC1 pj227 (by have q0 := own_e1L u0; simp only [List.length_append, List.length_cons, List.length_nil]; omega))) hZ (H 30 rfl) (H 7 rfl) (by decide) (by decide)) qa242 qc242 (g := (own_top pre240)) rfl (by rw [hml]; rfl) (Steps.refl _) (argsL := []) (rest := []) (lenOf pd_17 rfl) rfl (by show 2 * 0 + _ ≤ _; exact Nat.le_of_eq rfl) (hb hby d1_158) (fun _ _ => ⟨rfl, ej48, (by decide : 7 + 2 ≤ _), (by decide : 127 + 13 ≤ _)⟩)
 dsimp only [Pt.U, Pt.locs, Pt.cells, Pt.slots] at X242 l242 y242 z242 st242 hQ242
 subst l242 y242 z242
 obtain ⟨b243, vb244, kb245, rfl, Nq242, K242, g246, g247, g248⟩ := hQ242
 have N242 := Fr.app Nj48 Nq242
 have f249 : Arv Z hj48 a1 k1 .byte (1 : Int32) [(.int u0)] (.int 0) := (f39.keep Kj48 (ninS ne2 (ninS ne28 nin0)))
 have ne250 : a1 ≠ b243 := Nat.ne_of_lt (Nat.lt_of_lt_of_le f249.lt g246)
 have ne251 : b1 ≠ b243 := Nat.ne_of_lt (Nat.lt_of_lt_of_le qj232.lt g246)
 have f252 : Exa Z hj48 b19 "[B" := (g22.keep Kj48)
 have ne253 : b19 ≠ b243 := Nat.ne_of_lt (Nat.lt_of_lt_of_le f252.lt g246)
 have ne254 : va1 ≠ b243 := Nat.ne_of_lt (Nat.lt_of_lt_of_le qj230.lt g246)
 have ge255 : n0 ≤ b243 := Nat.le_trans zs238 g246
 have sf256 : Safe Z own_EL vmj48 hj48 b243 := Safe.new g246
 have sz257 : h0.size ≤ b243 := Nat.le_trans kc239.1 g246
 have ne258 : a1 ≠ vb244 := Nat.ne_of_lt (Nat.lt_of_lt_of_le f249.lt g247)
 have ne259 : b1 ≠ vb244 := Nat.ne_of_lt (Nat.lt_of_lt_of_le qj232.lt g247)
 have ne260 : b19 ≠ vb244 := Nat.ne_of_lt (Nat.lt_of_lt_of_le f252.lt g247)
 have ne261 : va1 ≠ vb244 := Nat.ne_of_lt (Nat.lt_of_lt_of_le qj230.lt g247)
 have ge262 : n0 ≤ vb244 := Nat.le_trans zs238 g247
 have sf263 : Safe Z own_EL vmj48 hj48 vb244 := Safe.new g247
 have sz264 : h0.size ≤ vb244 := Nat.le_trans kc239.1 g247
 have zs265 : n0 ≤ T242.heap.size := Nat.le_trans zs238 K242.1
 have kc266 : Keep h0 T242.heap [] := kc239.trans K242 all0
 have hk267 : _ ≤ T242.heap.size := Nat.le_trans hkj48 K242.1
 have ch268 : CHr Z own_EL s.vm h0 vmj48 T242.heap := chj48.trans (CHr.keep K242 all0 chj48.1)
 have sf269 : Safe Z own_EL vmj48 T242.heap b1 := Safe.keep K242 all0 chj48.1 sfj480
 have sf270 : Safe Z own_EL vmj48 T242.heap va1 := Safe.keep K242 all0 chj48.1 sfj481
 have sf271 : Safe Z own_EL vmj48 T242.heap b243 := Safe.keep K242 all0 chj48.1 sf256
 have sf272 : Safe Z own_EL vmj48 T242.heap vb244 := Safe.keep K242 all0 chj48.1 sf263
 have pre273 : own_Go p e below S0 (T242.setTop (mkF m 161 #[vR a1, vR b1, vR a1, vI 1, vI 1, vI u0, vI (own_cb u0)] [(.ref b243)])) := by
  intro t kt
  refine pre240 t ?_
  refine st242.trans ?_
  show Steps p.tables e below (T242.setTop (mkF m 161 #[vR a1, vR b1, vR a1, vI 1, vI 1, vI u0, vI (own_cb u0)] [(.ref b243)])) _
  exact kt
 obtain ⟨fs, hr, hrun, hended, hRW⟩ := Stand.leaveW (s := s) (vm₁ := vmj48) X242 hSj48 hk267 (v := some (.ref b243)) (fun h => by rw [Bd.returns] at h; cases h)
 refine ⟨_, _, fin _ (pre273 _ ?_), hrun, hended, _, _, rfl, ?_, (by rw [hh]; show CHr Z own_EL s.vm h0 T242.vm T242.heap; exact ch268.trans (CHv.at (s := s) (vm0 := vmj48) X242 hZ (own_EW a0 Z hw) ch268.1)), own_wideMono hRW (by decide) (by decide)⟩
 ·jvm_step X242.here [X242.here.top, hx, (hb hby d1_161), X242.method', Bd.returns, Value.isRef, FieldType.isReference]
  first | (intro acts; rw [hr _ acts rfl rfl rfl]) | rw [hr _ _ rfl rfl rfl]
  exact Steps.refl _
 ·show Qenc1 Z a1 wC wF k1 u0 h0 n0 _ T242.heap _
  exact ⟨b243, vb244, kb245, rfl, N242, kc266, sz257, ((show (([] : List Int32) ++ (own_e1 u0)) = (own_enc1 u0) from by simp [own_enc1]) ▸ g248)⟩

theorem ef_enc2 (m : MethodId) (x0 : Addr) : entryFrame m #[(.ref x0)] 7 = mkF m 0 #[vR x0, .unset, .unset, .unset, .unset, .unset, .unset] [] := by first | (simp [entryFrame, mkF, argsToLocals, Value.category]; done) | rfl
def Qenc2 (Z : State) (a1 : Addr) (wC : Int32) (wF : Value) (k1 : ClassId) (u0 : Int32) (u1 : Int32) (h0 : Heap) (n0 : Nat) (v : Option Value) (h : Heap) (L : List Loc) : Prop := ∃ b : Addr, ∃ vb : Addr, ∃ kb : ClassId, v = (some (.ref b)) ∧ Fr n0 L ∧ Keep h0 h [] ∧ h0.size ≤ b ∧ own_StrL Z h b vb kb (own_enc2 u0 u1)
set_option maxRecDepth 65536 in
set_option maxHeartbeats 40000000 in
theorem rmenc2 (l : Launch) (Z : State) (a0 : Array Value) (hw : ∀ d ∈ tables_1, d.before a0 Z = true) (ws : List Jvm.Cond) (a1 : Addr) (wC : Int32) (wF : Value) (k1 : ClassId) (u0 : Int32) (u1 : Int32) (h0 : Heap) (n0 : Nat) (Z0 : n0 ≤ h0.size) (O0 : Old Z n0 h0) (qC : (own_SC Z wC)) (qF : (own_SF Z wF)) (V1 : Arv Z h0 a1 k1 .byte (2 : Int32) [(.int u0), (.int u1)] (.int 0)) :
  MetFree l own_m0 (head1 (Jvm.Cond.code own_m0 prog_35_method_5_code 7 (some (.object "java/lang/String")) :: ws) (own_r 7 14 263 117)) (fun a U => a = #[(.ref a1)] ∧ Z.Warmed39 U.vm ∧ U.heap = h0 ∧ CHv Z own_EL U.vm h0 ∧ ∀ x ∈ ([] : List Addr), Safe Z own_EL U.vm h0 x) (fun _ _ _ _ _ => True) (fun _ U o U' => ∃ v L, o = .returned v ∧ Qenc2 Z a1 wC wF k1 u0 u1 h0 n0 v U'.heap L ∧ CHr Z own_EL U.vm U.heap U'.vm U'.heap ∧ ReturnedEndW U o U' L (own_r 7 14 263 117).cells (own_r 7 14 263 117).slots) := by
 refine MetFree.of_bodySF (plainFor_of_name pn_1) hisR ?_
 intro p e s m args below meth c s₁ Bd hml0 hP hK
 have H : ∀ (i : Nat) {d : Jvm.Cond}, tables_1[i]? = some d → d.before a0 Z = true := fun i _ h => hw _ (own_w i h)
 obtain ⟨rfl, hZ, hh, hCH, hSF⟩ := hP
 have hx := Bd.exec
 have hby := Bd.bytes
 have hml : c.maxLocals = 7 := hml0
 have hown0 := findClass_of_methodNamed Bd.named
 have hown : s.vm.findClass "com/example/permgrid/permgrid/PercentEncoding" = some m.cls := hown0
 have hnm := (name_of_methodNamed Bd.named Bd.method).1
 have X0 : Stand p l e (own_r 7 14 263 117) s m #[(.ref a1)] below meth c s₁ [] 0 0 := Stand.of_body Bd
 have e0 : s₁.heap = h0 := by rw [← hh, Bd.state]; rfl
 have N0 := Fr.nil n0
 obtain ⟨S0, hS0⟩ : ∃ z, z = s₁.setTop (entryFrame m #[(.ref a1)] 7) := ⟨_, rfl⟩
 have pre0 : own_Go p e below S0 (s₁.setTop (mkF m 0 #[vR a1, .unset, .unset, .unset, .unset, .unset, .unset] [])) := fun t k => by rw [hS0]; exact castTop (ef_enc2 m a1) k
 have fin : ∀ t, Steps p.tables e below S0 t → Steps p.tables e below (s₁.setTop (entryFrame m #[(.ref a1)] 7)) t := fun t k => by rw [hS0] at k; exact k
 have ch0 : CHr Z own_EL s.vm h0 s.vm h0 := CHr.refl hCH
 have kc0 : Keep h0 h0 [] := Keep.refl _ _
 obtain ⟨T1, h1, X1, e1, E1, A1, D1, -, st1⟩ := newO X0 hx hZ hown (H 5 rfl) (H 6 rfl) (H 7 rfl) e0 (g := (own_top pre0)) rfl (hb hby d1_0) (by decide) (by decide)
 obtain ⟨b1, g1⟩ : ∃ z, z = h0.size := ⟨_, rfl⟩
 rw [← g1] at A1 D1 st1
 have ne2 : a1 ≠ b1 := Nat.ne_of_lt (Nat.lt_of_lt_of_le V1.lt (Nat.le_of_eq g1.symm))
 have ge3 : n0 ≤ b1 := Nat.le_trans Z0 (Nat.le_of_eq g1.symm)
 have sf4 : Safe Z own_EL s.vm h0 b1 := Safe.new (Nat.le_of_eq g1.symm)
 have sz5 : h0.size ≤ b1 := Nat.le_trans kc0.1 (Nat.le_of_eq g1.symm)
 have zs6 : n0 ≤ h1.size := Nat.le_trans Z0 E1.1
 have kc7 : Keep h0 h1 [] := kc0.ext E1
 have ch8 : CHr Z own_EL s.vm h0 s.vm h1 := ch0.trans (CHr.ext E1 ch0.1)
 have sf9 : Safe Z own_EL s.vm h1 b1 := Safe.ext E1 ch0.1 sf4
 have fd10 : Fld Z h1 b1 "java/lang/AbstractStringBuilder" "value" "[B" .null := D1 (Or.inl (H 23 rfl)) (ty := (.array .byte)) (by decide)
 have fd11 : Fld Z h1 b1 "java/lang/AbstractStringBuilder" "coder" "B" (.int 0) := D1 (Or.inl (H 25 rfl)) (ty := .byte) (by decide)
 have fd12 : Fld Z h1 b1 "java/lang/AbstractStringBuilder" "count" "I" (.int 0) := D1 (Or.inl (H 56 rfl)) (ty := .int) (by decide)
 have pre13 : own_Go p e below S0 (T1.setTop (mkF m 5 #[vR a1, .unset, .unset, .unset, .unset, .unset, .unset] [(.ref a1), (.ref b1), (.ref b1)])) := by
  intro t kt
  refine pre0 t ?_
  refine st1 _ ?_
  refine XS.dup X1.here hx rfl (hb hby d1_3) rfl rfl ?_
  refine XS.aloadN X1.here hx rfl (hb hby d1_4) rfl rfl ?_
  exact kt
 have f14 : Arv Z h1 a1 k1 .byte (2 : Int32) [(.int u0), (.int u1)] (.int 0) := (V1.ext E1)
 obtain ⟨cl15, Ar15, -, Sz15, Ng15, -, -⟩ := id f14
 have pre16 : own_Go p e below S0 (T1.setTop (mkF m 6 #[vR a1, .unset, .unset, .unset, .unset, .unset, .unset] [(.int 2), (.ref b1), (.ref b1)])) := by
  intro t kt
  refine pre13 t ?_
  refine X1.arraylength hx (by rw [e1]; exact Ar15.1) (State.isArrayOf_alike hZ.alike Ar15.2.1) (g := (own_top pre13)) rfl rfl (hb hby d1_5) _ ?_
  rw [len_of Sz15 Ng15]
  show Steps p.tables e below (T1.setTop (mkF m 6 #[vR a1, .unset, .unset, .unset, .unset, .unset, .unset] [(.int 2), (.ref b1), (.ref b1)])) _
  exact kt
 have f17 : Old Z n0 h1 := (O0.ext E1)
 obtain ⟨_, _, ⟨T18, L18, k18, n18⟩, -, X18, ⟨Lc18, hQ18, l18, y18, z18⟩, st18⟩ := X1.specialBack hx (y := own_m20) rfl hown (mvT hZ (H 8 rfl)) (mvT hZ (H 9 rfl)) (mvT hZ (H 10 rfl)) (by decide) (backOf (W := 1) (rmsi2 l Z a0 hw [] b1 wC h1 n0 zs6 f17 qC A1 fd10 fd11 fd12 ge3) hZ (H 10 rfl) (H 7 rfl) (by decide) (by decide)) (g := (own_top pre16)) rfl (by rw [hml]; rfl) (Steps.refl _) (a := b1) (argsL := [(.int 2)]) (rest := [(.ref b1)]) (lenOf pd_4 rfl) rfl (by show 2 * 0 + _ ≤ _; exact Nat.le_of_eq rfl) (hb hby d1_6) (fun _ _ => ⟨rfl, e1, (by decide : 1 + 1 ≤ _), (by decide : 4 + 2 ≤ _)⟩)
 dsimp only [Pt.U, Pt.locs, Pt.cells, Pt.slots] at X18 l18 y18 z18 st18 hQ18
 subst l18 y18 z18
 obtain ⟨b19, kb20, rfl, Nq18, K18, g21, g22, g23, g24, g25, g26, g27⟩ := hQ18
 have N18 := Fr.app N0 Nq18
 have ne28 : a1 ≠ b19 := Nat.ne_of_lt (Nat.lt_of_lt_of_le f14.lt g21)
 have ne29 : b1 ≠ b19 := Nat.ne_of_lt (Nat.lt_of_lt_of_le A1.lt g21)
 have ge30 : n0 ≤ b19 := Nat.le_trans zs6 g21
 have sf31 : Safe Z own_EL s.vm h1 b19 := Safe.new g21
 have sz32 : h0.size ≤ b19 := Nat.le_trans kc7.1 g21
 have zs33 : n0 ≤ T18.heap.size := Nat.le_trans zs6 K18.1
 have kc34 : Keep h0 T18.heap [] := kc7.trans K18 (allS (Or.inr sz5) all0)
 have ch35 : CHr Z own_EL s.vm h0 s.vm T18.heap := ch8.trans (CHr.keep K18 (allS sf9 all0) ch8.1)
 have sf36 : Safe Z own_EL s.vm T18.heap b1 := Safe.keep K18 (allS sf9 all0) ch8.1 sf9
 have sf37 : Safe Z own_EL s.vm T18.heap b19 := Safe.keep K18 (allS sf9 all0) ch8.1 sf31
 have pre38 : own_Go p e below S0 (T18.setTop (mkF m 13 #[vR a1, vR b1, vR a1, .unset, .unset, .unset, .unset] [(.ref a1)])) := by
  intro t kt
  refine pre16 t ?_
  refine st18.trans ?_
  show Steps p.tables e below (T18.setTop (mkF m 9 #[vR a1, .unset, .unset, .unset, .unset, .unset, .unset] [(.ref b1)])) _
  refine XS.astoreN X18.here hx rfl (hb hby d1_9) rfl rfl (l' := #[vR a1, vR b1, .unset, .unset, .unset, .unset, .unset]) rfl ?_
  refine XS.aloadN X18.here hx rfl (hb hby d1_10) rfl rfl ?_
  refine XS.astoreN X18.here hx rfl (hb hby d1_11) rfl rfl (l' := #[vR a1, vR b1, vR a1, .unset, .unset, .unset, .unset]) rfl ?_
  refine XS.aloadN X18.here hx rfl (hb hby d1_12) rfl rfl ?_
  exact kt
 have f39 : Arv Z T18.heap a1 k1 .byte (2 : Int32) [(.int u0), (.int u1)] (.int 0) := (f14.keep K18 (ninS ne2 nin0))
 obtain ⟨cl40, Ar40, -, Sz40, Ng40, -, -⟩ := id f39
 have ft41 : own_Fit2 (2 : Int32) [(.int 0), (.int 0)] ([] : List Int32) := (Or.inl ⟨rfl, rfl, rfl⟩)
 have fc42 : Fld Z T18.heap b1 "java/lang/AbstractStringBuilder" "count" "I" (.int (own_len ([] : List Int32))) := g27
 have pre43 : own_Go p e below S0 (T18.setTop (mkF m 27 #[vR a1, vR b1, vR a1, vI 2, vI 0, .unset, .unset] [(.int 0), (.ref a1)])) := by
  intro t kt
  refine pre38 t ?_
  refine X18.arraylength hx Ar40.1 (State.isArrayOf_alike hZ.alike Ar40.2.1) (g := (own_top pre38)) rfl rfl (hb hby d1_13) _ ?_
  rw [len_of Sz40 Ng40]
  show Steps p.tables e below (T18.setTop (mkF m 14 #[vR a1, vR b1, vR a1, .unset, .unset, .unset, .unset] [(.int 2)])) _
  refine XS.istoreN X18.here hx rfl (hb hby d1_14) rfl (l' := #[vR a1, vR b1, vR a1, vI 2, .unset, .unset, .unset]) rfl ?_
  refine XS.iconst X18.here hx rfl (hb hby d1_15) ?_
  refine XS.istore X18.here hx rfl (hb hby d1_16) rfl (l' := #[vR a1, vR b1, vR a1, vI 2, vI 0, .unset, .unset]) rfl ?_
  refine XS.iload X18.here hx rfl (hb hby d1_18) rfl ?_
  refine XS.iloadN X18.here hx rfl (hb hby d1_20) rfl ?_
  refine XS.icmpNo X18.here hx rfl (hb hby d1_21) rfl (tlt (by decide : (0 : Int32) < (2 : Int32))).2.1 ?_
  refine XS.aloadN X18.here hx rfl (hb hby d1_24) rfl rfl ?_
  refine XS.iload X18.here hx rfl (hb hby d1_25) rfl ?_
  exact kt
 obtain ⟨cl44, Ar44, -, Sz44, -, Hs44, -⟩ := id f39
 have hin44 : ¬ ((0 : Int32) < 0 ∨ cl44.slots.size ≤ ((0 : Int32)).toNatClampNeg) := inb_of Sz44 ⟨by decide, by decide⟩
 have pre45 : own_Go p e below S0 (T18.setTop (mkF m 39 #[vR a1, vR b1, vR a1, vI 2, vI 0, vI u0, vI ((u0 &&& (255 : Int32)).toUInt32.toUInt16.toUInt32.toInt32)] [])) := by
  intro t kt
  refine pre43 t ?_
  refine X18.baloadBytes hx (j := (0 : Int32)) (v := (.int u0)) Ar44.1 (State.isArrayOf_alike hZ.alike Ar44.2.1) Ar44.2.2 hin44 (Hs44.at hin44 rfl) (g := (mkF m 27 #[vR a1, vR b1, vR a1, vI 2, vI 0, .unset, .unset] [(.int 0), (.ref a1)])) rfl rfl (hb hby d1_27) _ ?_
  refine XS.istore X18.here hx rfl (hb hby d1_28) rfl (l' := #[vR a1, vR b1, vR a1, vI 2, vI 0, vI u0, .unset]) rfl ?_
  refine XS.iload X18.here hx rfl (hb hby d1_30) rfl ?_
  refine XS.sipush X18.here hx rfl (hb hby d1_32) ?_
  refine XS.iand X18.here hx rfl (hb hby d1_35) rfl ?_
  refine XS.i2c X18.here hx rfl (hb hby d1_36) rfl ?_
  refine XS.istore X18.here hx rfl (hb hby d1_37) rfl (l' := #[vR a1, vR b1, vR a1, vI 2, vI 0, vI u0, vI ((u0 &&& (255 : Int32)).toUInt32.toUInt16.toUInt32.toInt32)]) rfl ?_
  exact kt
 have pre46 : own_Go p e below S0 (T18.setTop (mkF m 39 #[vR a1, vR b1, vR a1, vI 2, vI 0, vI u0, vI (own_cb u0)] [])) := by
  intro t kt
  refine pre45 t ?_
  rw [(rfl : ((u0 &&& (255 : Int32)).toUInt32.toUInt16.toUInt32.toInt32) = (own_cb u0))]
  exact kt
 obtain ⟨va1, kv1, zv1, lv1, Tj48, lj48, hj48, vmj48, knj48, Xj48, Nj48, ej48, Kj48, hSj48, hkj48, hZ, hown, chj48, sfj480, sfj481, pj227, qj228, qj229, qj230, qj231, qj232, qj233, qj234, qj235, qj236, qj237, prej48⟩ : ∃ (va1 : Addr) (kv1 : ClassId) (zv1 : Int32) (lv1 : List Value) (Tj48 : State) (lj48 : List Loc) (hj48 : Heap) (vmj48 : Vm) (knj48 : Nat), Stand p l e (own_r 7 14 263 117) (s.setVm vmj48) m #[(.ref a1)] below meth c Tj48 lj48 7 128 ∧ Fr n0 lj48 ∧ Tj48.heap = hj48 ∧ Keep T18.heap hj48 [b1, b19] ∧ s.Since vmj48 knj48 ∧ knj48 ≤ hj48.size ∧ Z.Warmed39 (s.setVm vmj48).vm ∧ (s.setVm vmj48).vm.findClass "com/example/permgrid/permgrid/PercentEncoding" = some m.cls ∧ CHr Z own_EL s.vm h0 vmj48 hj48 ∧ Safe Z own_EL vmj48 hj48 b1 ∧ Safe Z own_EL vmj48 hj48 va1 ∧ own_Fit2 zv1 lv1 (([] : List Int32) ++ (own_e1 u0)) ∧ n0 ≤ va1 ∧ b1 ≠ va1 ∧ Exa Z hj48 va1 "[B" ∧ Arv Z hj48 va1 kv1 .byte zv1 lv1 (.int 0) ∧ Exa Z hj48 b1 "java/lang/StringBuilder" ∧ Fld Z hj48 b1 "java/lang/AbstractStringBuilder" "value" "[B" (.ref va1) ∧ Fld Z hj48 b1 "java/lang/AbstractStringBuilder" "coder" "B" (.int 0) ∧ Fld Z hj48 b1 "java/lang/AbstractStringBuilder" "count" "I" (.int (own_len (([] : List Int32) ++ (own_e1 u0)))) ∧ (h0.size ≤ va1) ∧ a1 ≠ va1 ∧ own_Go p e below S0 (Tj48.setTop (mkF m 151 #[vR a1, vR b1, vR a1, vI 2, vI 0, vI u0, vI (own_cb u0)] [])) := by
  have kjj48 : Keep T18.heap T18.heap [b1, b19] := Keep.refl _ _
  by_cases hu47 : (own_unr (own_cb u0)) = (0 : Int32)
  ·have pre49 : own_Go p e below S0 (T18.setTop (mkF m 119 #[vR a1, vR b1, vR a1, vI 2, vI 0, vI u0, vI (own_cb u0)] [])) := fun t k => pre46 t ((own_test X18 hx hby _ _ _ _ _ _ _).1 hu47 t k)
   have pre50 : own_Go p e below S0 (T18.setTop (mkF m 122 #[vR a1, vR b1, vR a1, vI 2, vI 0, vI u0, vI (own_cb u0)] [(.int 37), (.ref b1)])) := by
    intro t kt
    refine pre49 t ?_
    refine XS.aloadN X18.here hx rfl (hb hby d1_119) rfl rfl ?_
    refine XS.bipush X18.here hx rfl (hb hby d1_120) ?_
    exact kt
   have lt51 : a1 < T18.heap.size := f39.lt
   have lt52 : b1 < T18.heap.size := g24.lt
   have f53 : Old Z n0 T18.heap := (f17.keep K18 (allS ge3 all0))
   obtain ⟨cq54, kq54, qa54, qb54, qc54⟩ := isOf hZ rfl g24
   obtain ⟨_, _, ⟨T54, L54, k54, n54⟩, -, X54, ⟨Lc54, hQ54, l54, y54, z54⟩, st54⟩ := X18.virtualBack hx (y := own_m21) (z := own_m21) hown (mvT hZ (H 90 rfl)) (mvT hZ (H 91 rfl)) (notFace_of_selects (args := #[]) (mvT hZ (H 93 rfl))) (mvT hZ (H 93 rfl)) (mvT hZ (H 92 rfl)) (by decide) (backOf (W := 0) (rmsaA2 l Z a0 hw [] b1 (37 : Int32) wC b19 kb20 (2 : Int32) [(.int 0), (.int 0)] ([] : List Int32) T18.heap n0 zs33 f53 qC g24 g25 g26 fc42 g22 g23 ge3 ge30 ne29 ft41 (by simp only [List.length_append, List.length_cons, List.length_nil]; omega) (by decide)) hZ (H 94 rfl) (H 7 rfl) (by decide) (by decide)) qa54 qc54 (g := (own_top pre50)) rfl (by rw [hml]; rfl) (Steps.refl _) (argsL := [(.int 37)]) (rest := []) (lenOf pd_18 rfl) rfl (by show 2 * 0 + _ ≤ _; exact Nat.le_of_eq rfl) (hb hby d1_122) (fun _ _ => ⟨rfl, rfl, (by decide : 2 + 1 ≤ _), (by decide : 6 + 18 ≤ _)⟩)
   dsimp only [Pt.U, Pt.locs, Pt.cells, Pt.slots] at X54 l54 y54 z54 st54 hQ54
   subst l54 y54 z54
   obtain ⟨vb55, kb56, z257, vs258, rfl, Nq54, K54, g59, g60, g61, g62, g63, g64, g65, g66, g67, g68⟩ := hQ54
   have N54 := Fr.app N18 Nq54
   have zs69 : n0 ≤ T54.heap.size := Nat.le_trans zs33 K54.1
   have kc70 : Keep h0 T54.heap [] := kc34.trans K54 (allS (Or.inr sz5) (allS (Or.inr sz32) all0))
   have kc71 : Keep T18.heap T54.heap [b1, b19] := kjj48.trans K54 (allS (Or.inl (List.mem_of_getElem? (i := 0) rfl)) (allS (Or.inl (List.mem_of_getElem? (i := 1) rfl)) all0))
   have ch72 : CHr Z own_EL s.vm h0 s.vm T54.heap := ch35.trans (CHr.keep K54 (allS sf36 (allS sf37 all0)) ch35.1)
   have sf73 : Safe Z own_EL s.vm T54.heap b1 := Safe.keep K54 (allS sf36 (allS sf37 all0)) ch35.1 sf36
   have sf74 : Safe Z own_EL s.vm T54.heap b19 := Safe.keep K54 (allS sf36 (allS sf37 all0)) ch35.1 sf37
   have ne75 : a1 ≠ vb55 := by
    rcases g59 with q | q
    ·rw [q]; exact ne28
    ·exact Nat.ne_of_lt (Nat.lt_of_lt_of_le lt51 q)
   have ne76 : b1 ≠ vb55 := by
    rcases g59 with q | q
    ·rw [q]; exact ne29
    ·exact Nat.ne_of_lt (Nat.lt_of_lt_of_le lt52 q)
   have sz77 : h0.size ≤ vb55 := by
    rcases g59 with q | q
    ·rw [q]; exact sz32
    ·exact Nat.le_trans kc34.1 q
   have sd78 : vb55 ∈ [b1, b19] ∨ T18.heap.size ≤ vb55 := by
    rcases g59 with q | q
    ·rw [q]; exact Or.inl (List.mem_of_getElem? (i := 1) rfl)
    ·exact Or.inr (Nat.le_trans kjj48.1 q)
   have sf79 : Safe Z own_EL s.vm T54.heap vb55 := by
    rcases g59 with q | q
    ·rw [q]; exact sf74
    ·exact Safe.keep K54 (allS sf36 (allS sf37 all0)) ch35.1 (Safe.new q)
   have pre80 : own_Go p e below S0 (T54.setTop (mkF m 125 #[vR a1, vR b1, vR a1, vI 2, vI 0, vI u0, vI (own_cb u0)] [(.ref b1)])) := by
    intro t kt
    refine pre50 t ?_
    refine st54.trans ?_
    show Steps p.tables e below (T54.setTop (mkF m 125 #[vR a1, vR b1, vR a1, vI 2, vI 0, vI u0, vI (own_cb u0)] [(.ref b1)])) _
    exact kt
   have f81 : Exa Z T54.heap b19 "[B" := (g22.keep K54)
   obtain ⟨b82, T82, h82, k82, v82, kv82, X82, e82, E82, hS82, hk82, hZ, hown, xE82, xC82, xF82, xV82, -, -, cr82, L82, hne82, st82⟩ := ldcCH (s := s) (vm0 := s.vm) X54 hx hZ hown (H 109 rfl) (own_strAtoms a0 Z hw) rfl (own_since s 0) (Nat.zero_le _) (own_EW a0 Z hw) (List.mem_of_getElem? (i := 0) rfl) ch72.1 (vs := [(.int 48), (.int 49), (.int 50), (.int 51), (.int 52), (.int 53), (.int 54), (.int 55), (.int 56), (.int 57), (.int 65), (.int 66), (.int 67), (.int 68), (.int 69), (.int 70)]) (z := 16) own_ht0 (by decide) (by decide) (g := (own_top pre80)) rfl (hb hby d1_125) (n := 64) (by decide +kernel) (by decide) (by decide) (by decide)
   have zs83 : n0 ≤ h82.size := Nat.le_trans zs69 E82.1
   have kc84 : Keep h0 h82 [] := kc70.ext E82
   have kc85 : Keep T18.heap h82 [b1, b19] := kc71.ext E82
   have ch86 : CHr Z own_EL s.vm h0 T82.vm h82 := ch72.trans (cr82)
   have sf87 : Safe Z own_EL T82.vm h82 b1 := cr82.safe g65.lt sf73
   have sf88 : Safe Z own_EL T82.vm h82 b19 := cr82.safe f81.lt sf74
   have sf89 : Safe Z own_EL T82.vm h82 vb55 := cr82.safe g62.lt sf79
   have ne90 : b1 ≠ b82 := (hne82 _ sf87).1
   have ne91 : b1 ≠ v82 := (hne82 _ sf87).2
   have ne92 : b19 ≠ b82 := (hne82 _ sf88).1
   have ne93 : b19 ≠ v82 := (hne82 _ sf88).2
   have ne94 : vb55 ≠ b82 := (hne82 _ sf89).1
   have ne95 : vb55 ≠ v82 := (hne82 _ sf89).2
   have pre96 : own_Go p e below S0 (T82.setTop (mkF m 131 #[vR a1, vR b1, vR a1, vI 2, vI 0, vI u0, vI (own_cb u0)] [(.int ((own_cb u0) >>> ((4 : Int32) &&& 31))), (.ref b82), (.ref b1)])) := by
    intro t kt
    refine pre80 t ?_
    refine st82 _ ?_
    refine XS.iload X82.here hx rfl (hb hby d1_127) rfl ?_
    refine XS.iconst X82.here hx rfl (hb hby d1_129) ?_
    refine XS.ishr X82.here hx rfl (hb hby d1_130) rfl ?_
    exact kt
   have pre97 : own_Go p e below S0 (T82.setTop (mkF m 131 #[vR a1, vR b1, vR a1, vI 2, vI 0, vI u0, vI (own_cb u0)] [(.int (own_hi u0)), (.ref b82), (.ref b1)])) := by
    intro t kt
    refine pre96 t ?_
    rw [(rfl : ((own_cb u0) >>> ((4 : Int32) &&& 31)) = (own_hi u0))]
    exact kt
   have f98 : Old Z n0 h82 := ((f53.keep K54 (allS ge3 (allS ge30 all0))).ext E82)
   obtain ⟨cq99, kq99, qa99, qb99, qc99⟩ := isOf hZ e82 xE82
   obtain ⟨_, _, ⟨T99, L99, k99, n99⟩, -, X99, ⟨Lc99, hQ99, l99, y99, z99⟩, st99⟩ := X82.virtualBack hx (y := own_m15) (z := own_m15) hown (mvT hZ (H 112 rfl)) (mvT hZ (H 113 rfl)) (notFace_of_selects (args := #[]) (mvT hZ (H 115 rfl))) (mvT hZ (H 115 rfl)) (mvT hZ (H 114 rfl)) (by decide) (backOf (W := 1) (rmchA l Z a0 hw [] b82 (own_hi u0) wC wF v82 kv82 (16 : Int32) [(.int 48), (.int 49), (.int 50), (.int 51), (.int 52), (.int 53), (.int 54), (.int 55), (.int 56), (.int 57), (.int 65), (.int 66), (.int 67), (.int 68), (.int 69), (.int 70)] (.int 0) (own_hexb (own_hi u0)) h82 n0 zs83 f98 qC qF xE82 xC82 xF82 xV82 (own_ix16 (own_hiR _)).1 (own_ix16 (own_hiR _)).2 (own_hexT (own_hiR _))) hZ (H 116 rfl) (H 21 rfl) (by decide) (by decide)) qa99 qc99 (g := (own_top pre97)) rfl (by rw [hml]; rfl) (Steps.refl _) (argsL := [(.int (own_hi u0))]) (rest := [(.ref b1)]) (lenOf pd_19 rfl) rfl (by show 2 * 0 + _ ≤ _; exact Nat.le_of_eq rfl) (hb hby d1_131) (fun _ _ => ⟨rfl, e82, (by decide : 5 + 0 ≤ _), (by decide : 92 + 0 ≤ _)⟩)
   dsimp only [Pt.U, Pt.locs, Pt.cells, Pt.slots] at X99 l99 y99 z99 st99 hQ99
   subst l99 y99 z99
   obtain ⟨rfl, Nq99, eq99⟩ := hQ99
   have N99 := Fr.app N54 Nq99
   have pre100 : own_Go p e below S0 (T99.setTop (mkF m 134 #[vR a1, vR b1, vR a1, vI 2, vI 0, vI u0, vI (own_cb u0)] [(.int (own_lc (own_hexb (own_hi u0)))), (.ref b1)])) := by
    intro t kt
    refine pre97 t ?_
    refine st99.trans ?_
    show Steps p.tables e below (T99.setTop (mkF m 134 #[vR a1, vR b1, vR a1, vI 2, vI 0, vI u0, vI (own_cb u0)] [(.int (own_lc (own_hexb (own_hi u0)))), (.ref b1)])) _
    exact kt
   have f102 : Arv Z h82 a1 k1 .byte (2 : Int32) [(.int u0), (.int u1)] (.int 0) := ((f39.keep K54 (ninS ne2 (ninS ne28 nin0))).ext E82)
   have lt101 : a1 < h82.size := f102.lt
   have f104 : Exa Z h82 b1 "java/lang/StringBuilder" := (g65.ext E82)
   have lt103 : b1 < h82.size := f104.lt
   have f106 : Exa Z h82 b19 "[B" := (f81.ext E82)
   have lt105 : b19 < h82.size := f106.lt
   have lt107 : b82 < h82.size := xE82.lt
   have lt108 : v82 < h82.size := xV82.lt
   have f109 : Fld Z h82 b1 "java/lang/AbstractStringBuilder" "value" "[B" (.ref vb55) := (g66.ext E82)
   have f110 : Fld Z h82 b1 "java/lang/AbstractStringBuilder" "coder" "B" (.int 0) := (g67.ext E82)
   have f111 : Fld Z h82 b1 "java/lang/AbstractStringBuilder" "count" "I" (.int (own_len (([] : List Int32) ++ [(37 : Int32)]))) := (g68.ext E82)
   have f112 : Exa Z h82 vb55 "[B" := (g62.ext E82)
   have f113 : Arv Z h82 vb55 kb56 .byte z257 vs258 (.int 0) := (g63.ext E82)
   obtain ⟨cq114, kq114, qa114, qb114, qc114⟩ := isOf hZ eq99 f104
   obtain ⟨_, _, ⟨T114, L114, k114, n114⟩, -, X114, ⟨Lc114, hQ114, l114, y114, z114⟩, st114⟩ := X99.virtualBack hx (y := own_m21) (z := own_m21) hown (mvT hZ (H 90 rfl)) (mvT hZ (H 91 rfl)) (notFace_of_selects (args := #[]) (mvT hZ (H 93 rfl))) (mvT hZ (H 93 rfl)) (mvT hZ (H 92 rfl)) (by decide) (backOf (W := 0) (rmsaA2 l Z a0 hw [] b1 (own_lc (own_hexb (own_hi u0))) wC vb55 kb56 z257 vs258 (([] : List Int32) ++ [(37 : Int32)]) h82 n0 zs83 f98 qC f104 f109 f110 f111 f112 f113 ge3 g60 g61 g64 (by simp only [List.length_append, List.length_cons, List.length_nil]; omega) (own_canR (own_lcR _).2)) hZ (H 94 rfl) (H 7 rfl) (by decide) (by decide)) qa114 qc114 (g := (own_top pre100)) rfl (by rw [hml]; rfl) (Steps.refl _) (argsL := [(.int (own_lc (own_hexb (own_hi u0))))]) (rest := []) (lenOf pd_18 rfl) rfl (by show 2 * 0 + _ ≤ _; exact Nat.le_of_eq rfl) (hb hby d1_134) (fun _ _ => ⟨rfl, eq99, (by decide : 5 + 1 ≤ _), (by decide : 92 + 18 ≤ _)⟩)
   dsimp only [Pt.U, Pt.locs, Pt.cells, Pt.slots] at X114 l114 y114 z114 st114 hQ114
   subst l114 y114 z114
   obtain ⟨vb115, kb116, z2117, vs2118, rfl, Nq114, K114, g119, g120, g121, g122, g123, g124, g125, g126, g127, g128⟩ := hQ114
   have N114 := Fr.app N99 Nq114
   have zs129 : n0 ≤ T114.heap.size := Nat.le_trans zs83 K114.1
   have kc130 : Keep h0 T114.heap [] := kc84.trans K114 (allS (Or.inr sz5) (allS (Or.inr sz77) all0))
   have kc131 : Keep T18.heap T114.heap [b1, b19] := kc85.trans K114 (allS (Or.inl (List.mem_of_getElem? (i := 0) rfl)) (allS sd78 all0))
   have hk132 : _ ≤ T114.heap.size := Nat.le_trans hk82 K114.1
   have ch133 : CHr Z own_EL s.vm h0 T82.vm T114.heap := ch86.trans (CHr.keep K114 (allS sf87 (allS sf89 all0)) ch86.1)
   have sf134 : Safe Z own_EL T82.vm T114.heap b1 := Safe.keep K114 (allS sf87 (allS sf89 all0)) ch86.1 sf87
   have sf135 : Safe Z own_EL T82.vm T114.heap b19 := Safe.keep K114 (allS sf87 (allS sf89 all0)) ch86.1 sf88
   have sf136 : Safe Z own_EL T82.vm T114.heap vb55 := Safe.keep K114 (allS sf87 (allS sf89 all0)) ch86.1 sf89
   have ne137 : a1 ≠ vb115 := by
    rcases g119 with q | q
    ·rw [q]; exact ne75
    ·exact Nat.ne_of_lt (Nat.lt_of_lt_of_le lt101 q)
   have ne138 : b1 ≠ vb115 := by
    rcases g119 with q | q
    ·rw [q]; exact g61
    ·exact Nat.ne_of_lt (Nat.lt_of_lt_of_le lt103 q)
   have ne139 : b82 ≠ vb115 := by
    rcases g119 with q | q
    ·rw [q]; exact (Ne.symm ne94)
    ·exact Nat.ne_of_lt (Nat.lt_of_lt_of_le lt107 q)
   have ne140 : v82 ≠ vb115 := by
    rcases g119 with q | q
    ·rw [q]; exact (Ne.symm ne95)
    ·exact Nat.ne_of_lt (Nat.lt_of_lt_of_le lt108 q)
   have sz141 : h0.size ≤ vb115 := by
    rcases g119 with q | q
    ·rw [q]; exact sz77
    ·exact Nat.le_trans kc84.1 q
   have sd142 : vb115 ∈ [b1, b19] ∨ T18.heap.size ≤ vb115 := by
    rcases g119 with q | q
    ·rw [q]; exact sd78
    ·exact Or.inr (Nat.le_trans kc85.1 q)
   have sf143 : Safe Z own_EL T82.vm T114.heap vb115 := by
    rcases g119 with q | q
    ·rw [q]; exact sf136
    ·exact Safe.keep K114 (allS sf87 (allS sf89 all0)) ch86.1 (Safe.new q)
   have pre144 : own_Go p e below S0 (T114.setTop (mkF m 137 #[vR a1, vR b1, vR a1, vI 2, vI 0, vI u0, vI (own_cb u0)] [(.ref b1)])) := by
    intro t kt
    refine pre100 t ?_
    refine st114.trans ?_
    show Steps p.tables e below (T114.setTop (mkF m 137 #[vR a1, vR b1, vR a1, vI 2, vI 0, vI u0, vI (own_cb u0)] [(.ref b1)])) _
    exact kt
   have pre145 : own_Go p e below S0 (T114.setTop (mkF m 144 #[vR a1, vR b1, vR a1, vI 2, vI 0, vI u0, vI (own_cb u0)] [(.int ((own_cb u0) &&& (15 : Int32))), (.ref b82), (.ref b1)])) := by
    intro t kt
    refine pre144 t ?_
    refine ldcAgain (s := s) (vm0 := T82.vm) X114 hx hZ hown (H 109 rfl) L82 (g := (own_top pre144)) rfl (hb hby d1_137) _ ?_
    refine XS.iload X114.here hx rfl (hb hby d1_139) rfl ?_
    refine XS.bipush X114.here hx rfl (hb hby d1_141) ?_
    refine XS.iand X114.here hx rfl (hb hby d1_143) rfl ?_
    exact kt
   have pre146 : own_Go p e below S0 (T114.setTop (mkF m 144 #[vR a1, vR b1, vR a1, vI 2, vI 0, vI u0, vI (own_cb u0)] [(.int (own_lo u0)), (.ref b82), (.ref b1)])) := by
    intro t kt
    refine pre145 t ?_
    rw [(rfl : ((own_cb u0) &&& (15 : Int32)) = (own_lo u0))]
    exact kt
   have f147 : Old Z n0 T114.heap := (f98.keep K114 (allS ge3 (allS g60 all0)))
   have f148 : Exa Z T114.heap b82 "java/lang/String" := (xE82.keep K114)
   have f149 : Fld Z T114.heap b82 "java/lang/String" "coder" "B" (.int 0) := (xC82.keep K114 (ninS (Ne.symm ne90) (ninS (Ne.symm ne94) nin0)))
   have f150 : Fld Z T114.heap b82 "java/lang/String" "value" "[B" (.ref v82) := (xF82.keep K114 (ninS (Ne.symm ne90) (ninS (Ne.symm ne94) nin0)))
   have f151 : Arv Z T114.heap v82 kv82 .byte (16 : Int32) [(.int 48), (.int 49), (.int 50), (.int 51), (.int 52), (.int 53), (.int 54), (.int 55), (.int 56), (.int 57), (.int 65), (.int 66), (.int 67), (.int 68), (.int 69), (.int 70)] (.int 0) := (xV82.keep K114 (ninS (Ne.symm ne91) (ninS (Ne.symm ne95) nin0)))
   obtain ⟨cq152, kq152, qa152, qb152, qc152⟩ := isOf hZ rfl f148
   obtain ⟨_, _, ⟨T152, L152, k152, n152⟩, -, X152, ⟨Lc152, hQ152, l152, y152, z152⟩, st152⟩ := X114.virtualBack hx (y := own_m15) (z := own_m15) hown (mvT hZ (H 112 rfl)) (mvT hZ (H 113 rfl)) (notFace_of_selects (args := #[]) (mvT hZ (H 115 rfl))) (mvT hZ (H 115 rfl)) (mvT hZ (H 114 rfl)) (by decide) (backOf (W := 1) (rmchA l Z a0 hw [] b82 (own_lo u0) wC wF v82 kv82 (16 : Int32) [(.int 48), (.int 49), (.int 50), (.int 51), (.int 52), (.int 53), (.int 54), (.int 55), (.int 56), (.int 57), (.int 65), (.int 66), (.int 67), (.int 68), (.int 69), (.int 70)] (.int 0) (own_hexb (own_lo u0)) T114.heap n0 zs129 f147 qC qF f148 f149 f150 f151 (own_ix16 (own_loR _)).1 (own_ix16 (own_loR _)).2 (own_hexT (own_loR _))) hZ (H 116 rfl) (H 21 rfl) (by decide) (by decide)) qa152 qc152 (g := (own_top pre146)) rfl (by rw [hml]; rfl) (Steps.refl _) (argsL := [(.int (own_lo u0))]) (rest := [(.ref b1)]) (lenOf pd_19 rfl) rfl (by show 2 * 0 + _ ≤ _; exact Nat.le_of_eq rfl) (hb hby d1_144) (fun _ _ => ⟨rfl, rfl, (by decide : 6 + 0 ≤ _), (by decide : 110 + 0 ≤ _)⟩)
   dsimp only [Pt.U, Pt.locs, Pt.cells, Pt.slots] at X152 l152 y152 z152 st152 hQ152
   subst l152 y152 z152
   obtain ⟨rfl, Nq152, eq152⟩ := hQ152
   have N152 := Fr.app N114 Nq152
   have pre153 : own_Go p e below S0 (T152.setTop (mkF m 147 #[vR a1, vR b1, vR a1, vI 2, vI 0, vI u0, vI (own_cb u0)] [(.int (own_lc (own_hexb (own_lo u0)))), (.ref b1)])) := by
    intro t kt
    refine pre146 t ?_
    refine st152.trans ?_
    show Steps p.tables e below (T152.setTop (mkF m 147 #[vR a1, vR b1, vR a1, vI 2, vI 0, vI u0, vI (own_cb u0)] [(.int (own_lc (own_hexb (own_lo u0)))), (.ref b1)])) _
    exact kt
   have f155 : Arv Z T114.heap a1 k1 .byte (2 : Int32) [(.int u0), (.int u1)] (.int 0) := (f102.keep K114 (ninS ne2 (ninS ne75 nin0)))
   have lt154 : a1 < T114.heap.size := f155.lt
   have lt156 : b1 < T114.heap.size := g125.lt
   have f158 : Exa Z T114.heap b19 "[B" := (f106.keep K114)
   have lt157 : b19 < T114.heap.size := f158.lt
   have f160 : Exa Z T114.heap vb55 "[B" := (f112.keep K114)
   have lt159 : vb55 < T114.heap.size := f160.lt
   have lt161 : b82 < T114.heap.size := f148.lt
   have lt162 : v82 < T114.heap.size := f151.lt
   obtain ⟨cq163, kq163, qa163, qb163, qc163⟩ := isOf hZ eq152 g125
   obtain ⟨_, _, ⟨T163, L163, k163, n163⟩, -, X163, ⟨Lc163, hQ163, l163, y163, z163⟩, st163⟩ := X152.virtualBack hx (y := own_m21) (z := own_m21) hown (mvT hZ (H 90 rfl)) (mvT hZ (H 91 rfl)) (notFace_of_selects (args := #[]) (mvT hZ (H 93 rfl))) (mvT hZ (H 93 rfl)) (mvT hZ (H 92 rfl)) (by decide) (backOf (W := 0) (rmsaA2 l Z a0 hw [] b1 (own_lc (own_hexb (own_lo u0))) wC vb115 kb116 z2117 vs2118 ((([] : List Int32) ++ [(37 : Int32)]) ++ [(own_lc (own_hexb (own_hi u0)))]) T114.heap n0 zs129 f147 qC g125 g126 g127 g128 g122 g123 ge3 g120 g121 g124 (by simp only [List.length_append, List.length_cons, List.length_nil]; omega) (own_canR (own_lcR _).2)) hZ (H 94 rfl) (H 7 rfl) (by decide) (by decide)) qa163 qc163 (g := (own_top pre153)) rfl (by rw [hml]; rfl) (Steps.refl _) (argsL := [(.int (own_lc (own_hexb (own_lo u0))))]) (rest := []) (lenOf pd_18 rfl) rfl (by show 2 * 0 + _ ≤ _; exact Nat.le_of_eq rfl) (hb hby d1_147) (fun _ _ => ⟨rfl, eq152, (by decide : 6 + 1 ≤ _), (by decide : 110 + 18 ≤ _)⟩)
   dsimp only [Pt.U, Pt.locs, Pt.cells, Pt.slots] at X163 l163 y163 z163 st163 hQ163
   subst l163 y163 z163
   obtain ⟨vb164, kb165, z2166, vs2167, rfl, Nq163, K163, g168, g169, g170, g171, g172, g173, g174, g175, g176, g177⟩ := hQ163
   have N163 := Fr.app N152 Nq163
   have zs178 : n0 ≤ T163.heap.size := Nat.le_trans zs129 K163.1
   have kc179 : Keep h0 T163.heap [] := kc130.trans K163 (allS (Or.inr sz5) (allS (Or.inr sz141) all0))
   have kc180 : Keep T18.heap T163.heap [b1, b19] := kc131.trans K163 (allS (Or.inl (List.mem_of_getElem? (i := 0) rfl)) (allS sd142 all0))
   have hk181 : _ ≤ T163.heap.size := Nat.le_trans hk132 K163.1
   have ch182 : CHr Z own_EL s.vm h0 T82.vm T163.heap := ch133.trans (CHr.keep K163 (allS sf134 (allS sf143 all0)) ch133.1)
   have sf183 : Safe Z own_EL T82.vm T163.heap b1 := Safe.keep K163 (allS sf134 (allS sf143 all0)) ch133.1 sf134
   have sf184 : Safe Z own_EL T82.vm T163.heap b19 := Safe.keep K163 (allS sf134 (allS sf143 all0)) ch133.1 sf135
   have sf185 : Safe Z own_EL T82.vm T163.heap vb55 := Safe.keep K163 (allS sf134 (allS sf143 all0)) ch133.1 sf136
   have sf186 : Safe Z own_EL T82.vm T163.heap vb115 := Safe.keep K163 (allS sf134 (allS sf143 all0)) ch133.1 sf143
   have ne187 : a1 ≠ vb164 := by
    rcases g168 with q | q
    ·rw [q]; exact ne137
    ·exact Nat.ne_of_lt (Nat.lt_of_lt_of_le lt154 q)
   have ne188 : b1 ≠ vb164 := by
    rcases g168 with q | q
    ·rw [q]; exact g121
    ·exact Nat.ne_of_lt (Nat.lt_of_lt_of_le lt156 q)
   have ne189 : b82 ≠ vb164 := by
    rcases g168 with q | q
    ·rw [q]; exact ne139
    ·exact Nat.ne_of_lt (Nat.lt_of_lt_of_le lt161 q)
   have ne190 : v82 ≠ vb164 := by
    rcases g168 with q | q
    ·rw [q]; exact ne140
    ·exact Nat.ne_of_lt (Nat.lt_of_lt_of_le lt162 q)
   have sz191 : h0.size ≤ vb164 := by
    rcases g168 with q | q
    ·rw [q]; exact sz141
    ·exact Nat.le_trans kc130.1 q
   have sd192 : vb164 ∈ [b1, b19] ∨ T18.heap.size ≤ vb164 := by
    rcases g168 with q | q
    ·rw [q]; exact sd142
    ·exact Or.inr (Nat.le_trans kc131.1 q)
   have sf193 : Safe Z own_EL T82.vm T163.heap vb164 := by
    rcases g168 with q | q
    ·rw [q]; exact sf186
    ·exact Safe.keep K163 (allS sf134 (allS sf143 all0)) ch133.1 (Safe.new q)
   have pre194 : own_Go p e below S0 (T163.setTop (mkF m 151 #[vR a1, vR b1, vR a1, vI 2, vI 0, vI u0, vI (own_cb u0)] [])) := by
    intro t kt
    refine pre153 t ?_
    refine st163.trans ?_
    show Steps p.tables e below (T163.setTop (mkF m 150 #[vR a1, vR b1, vR a1, vI 2, vI 0, vI u0, vI (own_cb u0)] [(.ref b1)])) _
    refine XS.pop X163.here hx rfl (hb hby d1_150) rfl rfl ?_
    exact kt
   exact ⟨vb164, kb165, z2166, vs2167, T163, _, _, T82.vm, _, (Stand.mono X163 (by decide) (by decide)), N163, rfl, kc180, hS82, hk181, hZ, hown, ch182, sf183, sf193, ((show (((([] : List Int32) ++ [(37 : Int32)]) ++ [(own_lc (own_hexb (own_hi u0)))]) ++ [(own_lc (own_hexb (own_lo u0)))]) = (([] : List Int32) ++ (own_e1 u0)) from by rw [show own_e1 u0 = [37, own_lc (own_hexb (own_hi u0)), own_lc (own_hexb (own_lo u0))] from by rw [own_e1, if_pos hu47]] <;> simp) ▸ g173), g169, g170, g171, g172, g174, g175, g176, ((show (((([] : List Int32) ++ [(37 : Int32)]) ++ [(own_lc (own_hexb (own_hi u0)))]) ++ [(own_lc (own_hexb (own_lo u0)))]) = (([] : List Int32) ++ (own_e1 u0)) from by rw [show own_e1 u0 = [37, own_lc (own_hexb (own_hi u0)), own_lc (own_hexb (own_lo u0))] from by rw [own_e1, if_pos hu47]] <;> simp) ▸ g177), sz191, ne187, pre194⟩
  ·have pre195 : own_Go p e below S0 (T18.setTop (mkF m 109 #[vR a1, vR b1, vR a1, vI 2, vI 0, vI u0, vI (own_cb u0)] [])) := fun t k => pre46 t ((own_test X18 hx hby _ _ _ _ _ _ _).2 hu47 t k)
   have pre196 : own_Go p e below S0 (T18.setTop (mkF m 112 #[vR a1, vR b1, vR a1, vI 2, vI 0, vI u0, vI (own_cb u0)] [(.int (own_cb u0)), (.ref b1)])) := by
    intro t kt
    refine pre195 t ?_
    refine XS.aloadN X18.here hx rfl (hb hby d1_109) rfl rfl ?_
    refine XS.iload X18.here hx rfl (hb hby d1_110) rfl ?_
    exact kt
   have lt197 : a1 < T18.heap.size := f39.lt
   have lt198 : b1 < T18.heap.size := g24.lt
   have f199 : Old Z n0 T18.heap := (f17.keep K18 (allS ge3 all0))
   obtain ⟨cq200, kq200, qa200, qb200, qc200⟩ := isOf hZ rfl g24
   obtain ⟨_, _, ⟨T200, L200, k200, n200⟩, -, X200, ⟨Lc200, hQ200, l200, y200, z200⟩, st200⟩ := X18.virtualBack hx (y := own_m21) (z := own_m21) hown (mvT hZ (H 90 rfl)) (mvT hZ (H 91 rfl)) (notFace_of_selects (args := #[]) (mvT hZ (H 93 rfl))) (mvT hZ (H 93 rfl)) (mvT hZ (H 92 rfl)) (by decide) (backOf (W := 0) (rmsaA2 l Z a0 hw [] b1 (own_cb u0) wC b19 kb20 (2 : Int32) [(.int 0), (.int 0)] ([] : List Int32) T18.heap n0 zs33 f199 qC g24 g25 g26 fc42 g22 g23 ge3 ge30 ne29 ft41 (by simp only [List.length_append, List.length_cons, List.length_nil]; omega) (own_canR (own_cbR _).2)) hZ (H 94 rfl) (H 7 rfl) (by decide) (by decide)) qa200 qc200 (g := (own_top pre196)) rfl (by rw [hml]; rfl) (Steps.refl _) (argsL := [(.int (own_cb u0))]) (rest := []) (lenOf pd_18 rfl) rfl (by show 2 * 0 + _ ≤ _; exact Nat.le_of_eq rfl) (hb hby d1_112) (fun _ _ => ⟨rfl, rfl, (by decide : 2 + 1 ≤ _), (by decide : 6 + 18 ≤ _)⟩)
   dsimp only [Pt.U, Pt.locs, Pt.cells, Pt.slots] at X200 l200 y200 z200 st200 hQ200
   subst l200 y200 z200
   obtain ⟨vb201, kb202, z2203, vs2204, rfl, Nq200, K200, g205, g206, g207, g208, g209, g210, g211, g212, g213, g214⟩ := hQ200
   have N200 := Fr.app N18 Nq200
   have zs215 : n0 ≤ T200.heap.size := Nat.le_trans zs33 K200.1
   have kc216 : Keep h0 T200.heap [] := kc34.trans K200 (allS (Or.inr sz5) (allS (Or.inr sz32) all0))
   have kc217 : Keep T18.heap T200.heap [b1, b19] := kjj48.trans K200 (allS (Or.inl (List.mem_of_getElem? (i := 0) rfl)) (allS (Or.inl (List.mem_of_getElem? (i := 1) rfl)) all0))
   have ch218 : CHr Z own_EL s.vm h0 s.vm T200.heap := ch35.trans (CHr.keep K200 (allS sf36 (allS sf37 all0)) ch35.1)
   have sf219 : Safe Z own_EL s.vm T200.heap b1 := Safe.keep K200 (allS sf36 (allS sf37 all0)) ch35.1 sf36
   have sf220 : Safe Z own_EL s.vm T200.heap b19 := Safe.keep K200 (allS sf36 (allS sf37 all0)) ch35.1 sf37
   have ne221 : a1 ≠ vb201 := by
    rcases g205 with q | q
    ·rw [q]; exact ne28
    ·exact Nat.ne_of_lt (Nat.lt_of_lt_of_le lt197 q)
   have ne222 : b1 ≠ vb201 := by
    rcases g205 with q | q
    ·rw [q]; exact ne29
    ·exact Nat.ne_of_lt (Nat.lt_of_lt_of_le lt198 q)
   have sz223 : h0.size ≤ vb201 := by
    rcases g205 with q | q
    ·rw [q]; exact sz32
    ·exact Nat.le_trans kc34.1 q
   have sd224 : vb201 ∈ [b1, b19] ∨ T18.heap.size ≤ vb201 := by
    rcases g205 with q | q
    ·rw [q]; exact Or.inl (List.mem_of_getElem? (i := 1) rfl)
    ·exact Or.inr (Nat.le_trans kjj48.1 q)
   have sf225 : Safe Z own_EL s.vm T200.heap vb201 := by
    rcases g205 with q | q
    ·rw [q]; exact sf220
    ·exact Safe.keep K200 (allS sf36 (allS sf37 all0)) ch35.1 (Safe.new q)
   have pre226 : own_Go p e below S0 (T200.setTop (mkF m 151 #[vR a1, vR b1, vR a1, vI 2, vI 0, vI u0, vI (own_cb u0)] [])) := by
    intro t kt
    refine pre196 t ?_
    refine st200.trans ?_
    show Steps p.tables e below (T200.setTop (mkF m 115 #[vR a1, vR b1, vR a1, vI 2, vI 0, vI u0, vI (own_cb u0)] [(.ref b1)])) _
    refine XS.pop X200.here hx rfl (hb hby d1_115) rfl rfl ?_
    refine XS.goto X200.here hx rfl (pc0 := 116) (pc' := 151) rfl (hb hby d1_116) (by decide) (by decide) ?_
    exact kt
   exact ⟨vb201, kb202, z2203, vs2204, T200, _, _, s.vm, _, (Stand.mono X200 (by decide) (by decide)), N200, rfl, kc217, (own_since s 0), (Nat.zero_le _), hZ, hown, ch218, sf219, sf225, ((show (([] : List Int32) ++ [(own_cb u0)]) = (([] : List Int32) ++ (own_e1 u0)) from by rw [show own_e1 u0 = [own_cb u0] from by rw [own_e1, if_neg hu47]] <;> simp) ▸ g210), g206, g207, g208, g209, g211, g212, g213, ((show (([] : List Int32) ++ [(own_cb u0)]) = (([] : List Int32) ++ (own_e1 u0)) from by rw [show own_e1 u0 = [own_cb u0] from by rw [own_e1, if_neg hu47]] <;> simp) ▸ g214), sz223, ne221, pre226⟩
 have zs238 : n0 ≤ hj48.size := Nat.le_trans zs33 Kj48.1
 have kc239 : Keep h0 hj48 [] := kc34.trans Kj48 (allS (Or.inr sz5) (allS (Or.inr sz32) all0))
 have pre240 : own_Go p e below S0 (Tj48.setTop (mkF m 27 #[vR a1, vR b1, vR a1, vI 2, vI 1, vI u0, vI (own_cb u0)] [(.int 1), (.ref a1)])) := by
  intro t kt
  refine prej48 t ?_
  refine XS.iinc Xj48.here hx rfl (hb hby d1_151) rfl (l' := #[vR a1, vR b1, vR a1, vI 2, vI 1, vI u0, vI (own_cb u0)]) rfl ?_
  refine XS.goto Xj48.here hx rfl (pc0 := 154) (pc' := 18) rfl (hb hby d1_154) (by decide) (by decide) ?_
  refine XS.iload Xj48.here hx rfl (hb hby d1_18) rfl ?_
  refine XS.iloadN Xj48.here hx rfl (hb hby d1_20) rfl ?_
  refine XS.icmpNo Xj48.here hx rfl (hb hby d1_21) rfl (tlt (by decide : (1 : Int32) < (2 : Int32))).2.1 ?_
  refine XS.aloadN Xj48.here hx rfl (hb hby d1_24) rfl rfl ?_
  refine XS.iload Xj48.here hx rfl (hb hby d1_25) rfl ?_
  exact kt
 have f241 : Arv Z hj48 a1 k1 .byte (2 : Int32) [(.int u0), (.int u1)] (.int 0) := (f39.keep Kj48 (ninS ne2 (ninS ne28 nin0)))
 obtain ⟨cl242, Ar242, -, Sz242, -, Hs242, -⟩ := id f241
 have hin242 : ¬ ((1 : Int32) < 0 ∨ cl242.slots.size ≤ ((1 : Int32)).toNatClampNeg) := inb_of Sz242 ⟨by decide, by decide⟩
 have pre243 : own_Go p e below S0 (Tj48.setTop (mkF m 39 #[vR a1, vR b1, vR a1, vI 2, vI 1, vI u1, vI ((u1 &&& (255 : Int32)).toUInt32.toUInt16.toUInt32.toInt32)] [])) := by
  intro t kt
  refine pre240 t ?_
  refine Xj48.baloadBytes hx (j := (1 : Int32)) (v := (.int u1)) (by rw [ej48]; exact Ar242.1) (State.isArrayOf_alike hZ.alike Ar242.2.1) Ar242.2.2 hin242 (Hs242.at hin242 rfl) (g := (mkF m 27 #[vR a1, vR b1, vR a1, vI 2, vI 1, vI u0, vI (own_cb u0)] [(.int 1), (.ref a1)])) rfl rfl (hb hby d1_27) _ ?_
  refine XS.istore Xj48.here hx rfl (hb hby d1_28) rfl (l' := #[vR a1, vR b1, vR a1, vI 2, vI 1, vI u1, vI (own_cb u0)]) rfl ?_
  refine XS.iload Xj48.here hx rfl (hb hby d1_30) rfl ?_
  refine XS.sipush Xj48.here hx rfl (hb hby d1_32) ?_
  refine XS.iand Xj48.here hx rfl (hb hby d1_35) rfl ?_
  refine XS.i2c Xj48.here hx rfl (hb hby d1_36) rfl ?_
  refine XS.istore Xj48.here hx rfl (hb hby d1_37) rfl (l' := #[vR a1, vR b1, vR a1, vI 2, vI 1, vI u1, vI ((u1 &&& (255 : Int32)).toUInt32.toUInt16.toUInt32.toInt32)]) rfl ?_
  exact kt
 have pre244 : own_Go p e below S0 (Tj48.setTop (mkF m 39 #[vR a1, vR b1, vR a1, vI 2, vI 1, vI u1, vI (own_cb u1)] [])) := by
  intro t kt
  refine pre243 t ?_
  rw [(rfl : ((u1 &&& (255 : Int32)).toUInt32.toUInt16.toUInt32.toInt32) = (own_cb u1))]
  exact kt
 obtain ⟨va2, kv2, zv2, lv2, Tj246, lj246, hj246, vmj246, knj246, Xj246, Nj246, ej246, Kj246, hSj246, hkj246, hZ, hown, chj246, sfj2460, sfj2461, pj435, qj436, qj437, qj438, qj439, qj440, qj441, qj442, qj443, qj444, qj445, prej246⟩ : ∃ (va2 : Addr) (kv2 : ClassId) (zv2 : Int32) (lv2 : List Value) (Tj246 : State) (lj246 : List Loc) (hj246 : Heap) (vmj246 : Vm) (knj246 : Nat), Stand p l e (own_r 7 14 263 117) (s.setVm vmj246) m #[(.ref a1)] below meth c Tj246 lj246 12 250 ∧ Fr n0 lj246 ∧ Tj246.heap = hj246 ∧ Keep hj48 hj246 [b1, va1] ∧ s.Since vmj246 knj246 ∧ knj246 ≤ hj246.size ∧ Z.Warmed39 (s.setVm vmj246).vm ∧ (s.setVm vmj246).vm.findClass "com/example/permgrid/permgrid/PercentEncoding" = some m.cls ∧ CHr Z own_EL s.vm h0 vmj246 hj246 ∧ Safe Z own_EL vmj246 hj246 b1 ∧ Safe Z own_EL vmj246 hj246 va2 ∧ own_Fit2 zv2 lv2 ((([] : List Int32) ++ (own_e1 u0)) ++ (own_e1 u1)) ∧ n0 ≤ va2 ∧ b1 ≠ va2 ∧ Exa Z hj246 va2 "[B" ∧ Arv Z hj246 va2 kv2 .byte zv2 lv2 (.int 0) ∧ Exa Z hj246 b1 "java/lang/StringBuilder" ∧ Fld Z hj246 b1 "java/lang/AbstractStringBuilder" "value" "[B" (.ref va2) ∧ Fld Z hj246 b1 "java/lang/AbstractStringBuilder" "coder" "B" (.int 0) ∧ Fld Z hj246 b1 "java/lang/AbstractStringBuilder" "count" "I" (.int (own_len ((([] : List Int32) ++ (own_e1 u0)) ++ (own_e1 u1)))) ∧ (h0.size ≤ va2) ∧ a1 ≠ va2 ∧ own_Go p e below S0 (Tj246.setTop (mkF m 151 #[vR a1, vR b1, vR a1, vI 2, vI 1, vI u1, vI (own_cb u1)] [])) := by
  have kjj246 : Keep hj48 hj48 [b1, va1] := Keep.refl _ _
  by_cases hu245 : (own_unr (own_cb u1)) = (0 : Int32)
  ·have pre247 : own_Go p e below S0 (Tj48.setTop (mkF m 119 #[vR a1, vR b1, vR a1, vI 2, vI 1, vI u1, vI (own_cb u1)] [])) := fun t k => pre244 t ((own_test Xj48 hx hby _ _ _ _ _ _ _).1 hu245 t k)
   have pre248 : own_Go p e below S0 (Tj48.setTop (mkF m 122 #[vR a1, vR b1, vR a1, vI 2, vI 1, vI u1, vI (own_cb u1)] [(.int 37), (.ref b1)])) := by
    intro t kt
    refine pre247 t ?_
    refine XS.aloadN Xj48.here hx rfl (hb hby d1_119) rfl rfl ?_
    refine XS.bipush Xj48.here hx rfl (hb hby d1_120) ?_
    exact kt
   have lt249 : a1 < hj48.size := f241.lt
   have lt250 : b1 < hj48.size := qj232.lt
   have f252 : Exa Z hj48 b19 "[B" := (g22.keep Kj48)
   have lt251 : b19 < hj48.size := f252.lt
   have f253 : Old Z n0 hj48 := ((f17.keep K18 (allS ge3 all0)).keep Kj48 (allS ge3 (allS ge30 all0)))
   obtain ⟨cq254, kq254, qa254, qb254, qc254⟩ := isOf hZ ej48 qj232
   obtain ⟨_, _, ⟨T254, L254, k254, n254⟩, -, X254, ⟨Lc254, hQ254, l254, y254, z254⟩, st254⟩ := Xj48.virtualBack hx (y := own_m21) (z := own_m21) hown (mvT hZ (H 90 rfl)) (mvT hZ (H 91 rfl)) (notFace_of_selects (args := #[]) (mvT hZ (H 93 rfl))) (mvT hZ (H 93 rfl)) (mvT hZ (H 92 rfl)) (by decide) (backOf (W := 0) (rmsaA2 l Z a0 hw [] b1 (37 : Int32) wC va1 kv1 zv1 lv1 (([] : List Int32) ++ (own_e1 u0)) hj48 n0 zs238 f253 qC qj232 qj233 qj234 qj235 qj230 qj231 ge3 qj228 qj229 pj227 (by have q0 := own_e1L u0; simp only [List.length_append, List.length_cons, List.length_nil]; omega) (by decide)) hZ (H 94 rfl) (H 7 rfl) (by decide) (by decide)) qa254 qc254 (g := (own_top pre248)) rfl (by rw [hml]; rfl) (Steps.refl _) (argsL := [(.int 37)]) (rest := []) (lenOf pd_18 rfl) rfl (by show 2 * 0 + _ ≤ _; exact Nat.le_of_eq rfl) (hb hby d1_122) (fun _ _ => ⟨rfl, ej48, (by decide : 7 + 1 ≤ _), (by decide : 128 + 18 ≤ _)⟩)
   dsimp only [Pt.U, Pt.locs, Pt.cells, Pt.slots] at X254 l254 y254 z254 st254 hQ254
   subst l254 y254 z254
   obtain ⟨vb255, kb256, z2257, vs2258, rfl, Nq254, K254, g259, g260, g261, g262, g263, g264, g265, g266, g267, g268⟩ := hQ254
   have N254 := Fr.app Nj48 Nq254
   have zs269 : n0 ≤ T254.heap.size := Nat.le_trans zs238 K254.1
   have kc270 : Keep h0 T254.heap [] := kc239.trans K254 (allS (Or.inr sz5) (allS (Or.inr qj236) all0))
   have kc271 : Keep hj48 T254.heap [b1, va1] := kjj246.trans K254 (allS (Or.inl (List.mem_of_getElem? (i := 0) rfl)) (allS (Or.inl (List.mem_of_getElem? (i := 1) rfl)) all0))
   have hk272 : _ ≤ T254.heap.size := Nat.le_trans hkj48 K254.1
   have ch273 : CHr Z own_EL s.vm h0 vmj48 T254.heap := chj48.trans (CHr.keep K254 (allS sfj480 (allS sfj481 all0)) chj48.1)
   have sf274 : Safe Z own_EL vmj48 T254.heap b1 := Safe.keep K254 (allS sfj480 (allS sfj481 all0)) chj48.1 sfj480
   have sf275 : Safe Z own_EL vmj48 T254.heap va1 := Safe.keep K254 (allS sfj480 (allS sfj481 all0)) chj48.1 sfj481
   have ne276 : a1 ≠ vb255 := by
    rcases g259 with q | q
    ·rw [q]; exact qj237
    ·exact Nat.ne_of_lt (Nat.lt_of_lt_of_le lt249 q)
   have ne277 : b1 ≠ vb255 := by
    rcases g259 with q | q
    ·rw [q]; exact qj229
    ·exact Nat.ne_of_lt (Nat.lt_of_lt_of_le lt250 q)
   have sz278 : h0.size ≤ vb255 := by
    rcases g259 with q | q
    ·rw [q]; exact qj236
    ·exact Nat.le_trans kc239.1 q
   have sd279 : vb255 ∈ [b1, va1] ∨ hj48.size ≤ vb255 := by
    rcases g259 with q | q
    ·rw [q]; exact Or.inl (List.mem_of_getElem? (i := 1) rfl)
    ·exact Or.inr (Nat.le_trans kjj246.1 q)
   have sf280 : Safe Z own_EL vmj48 T254.heap vb255 := by
    rcases g259 with q | q
    ·rw [q]; exact sf275
    ·exact Safe.keep K254 (allS sfj480 (allS sfj481 all0)) chj48.1 (Safe.new q)
   have pre281 : own_Go p e below S0 (T254.setTop (mkF m 125 #[vR a1, vR b1, vR a1, vI 2, vI 1, vI u1, vI (own_cb u1)] [(.ref b1)])) := by
    intro t kt
    refine pre248 t ?_
    refine st254.trans ?_
    show Steps p.tables e below (T254.setTop (mkF m 125 #[vR a1, vR b1, vR a1, vI 2, vI 1, vI u1, vI (own_cb u1)] [(.ref b1)])) _
    exact kt
   have f282 : Exa Z T254.heap va1 "[B" := (qj230.keep K254)
   obtain ⟨b283, T283, h283, k283, v283, kv283, X283, e283, E283, hS283, hk283, hZ, hown, xE283, xC283, xF283, xV283, -, -, cr283, L283, hne283, st283⟩ := ldcCH (s := s) (vm0 := vmj48) X254 hx hZ hown (H 109 rfl) (own_strAtoms a0 Z hw) rfl hSj48 hk272 (own_EW a0 Z hw) (List.mem_of_getElem? (i := 0) rfl) ch273.1 (vs := [(.int 48), (.int 49), (.int 50), (.int 51), (.int 52), (.int 53), (.int 54), (.int 55), (.int 56), (.int 57), (.int 65), (.int 66), (.int 67), (.int 68), (.int 69), (.int 70)]) (z := 16) own_ht0 (by decide) (by decide) (g := (own_top pre281)) rfl (hb hby d1_125) (n := 64) (by decide +kernel) (by decide) (by decide) (by decide)
   have zs284 : n0 ≤ h283.size := Nat.le_trans zs269 E283.1
   have kc285 : Keep h0 h283 [] := kc270.ext E283
   have kc286 : Keep hj48 h283 [b1, va1] := kc271.ext E283
   have ch287 : CHr Z own_EL s.vm h0 T283.vm h283 := ch273.trans (cr283)
   have sf288 : Safe Z own_EL T283.vm h283 b1 := cr283.safe g265.lt sf274
   have sf289 : Safe Z own_EL T283.vm h283 va1 := cr283.safe f282.lt sf275
   have sf290 : Safe Z own_EL T283.vm h283 vb255 := cr283.safe g262.lt sf280
   have ne291 : b1 ≠ b283 := (hne283 _ sf288).1
   have ne292 : b1 ≠ v283 := (hne283 _ sf288).2
   have ne293 : va1 ≠ b283 := (hne283 _ sf289).1
   have ne294 : va1 ≠ v283 := (hne283 _ sf289).2
   have ne295 : vb255 ≠ b283 := (hne283 _ sf290).1
   have ne296 : vb255 ≠ v283 := (hne283 _ sf290).2
   have pre297 : own_Go p e below S0 (T283.setTop (mkF m 131 #[vR a1, vR b1, vR a1, vI 2, vI 1, vI u1, vI (own_cb u1)] [(.int ((own_cb u1) >>> ((4 : Int32) &&& 31))), (.ref b283), (.ref b1)])) := by
    intro t kt
    refine pre281 t ?_
    refine st283 _ ?_
    refine XS.iload X283.here hx rfl (hb hby d1_127) rfl ?_
    refine XS.iconst X283.here hx rfl (hb hby d1_129) ?_
    refine XS.ishr X283.here hx rfl (hb hby d1_130) rfl ?_
    exact kt
   have pre298 : own_Go p e below S0 (T283.setTop (mkF m 131 #[vR a1, vR b1, vR a1, vI 2, vI 1, vI u1, vI (own_cb u1)] [(.int (own_hi u1)), (.ref b283), (.ref b1)])) := by
    intro t kt
    refine pre297 t ?_
    rw [(rfl : ((own_cb u1) >>> ((4 : Int32) &&& 31)) = (own_hi u1))]
    exact kt
   have f299 : Old Z n0 h283 := ((f253.keep K254 (allS ge3 (allS qj228 all0))).ext E283)
   obtain ⟨cq300, kq300, qa300, qb300, qc300⟩ := isOf hZ e283 xE283
   obtain ⟨_, _, ⟨T300, L300, k300, n300⟩, -, X300, ⟨Lc300, hQ300, l300, y300, z300⟩, st300⟩ := X283.virtualBack hx (y := own_m15) (z := own_m15) hown (mvT hZ (H 112 rfl)) (mvT hZ (H 113 rfl)) (notFace_of_selects (args := #[]) (mvT hZ (H 115 rfl))) (mvT hZ (H 115 rfl)) (mvT hZ (H 114 rfl)) (by decide) (backOf (W := 1) (rmchA l Z a0 hw [] b283 (own_hi u1) wC wF v283 kv283 (16 : Int32) [(.int 48), (.int 49), (.int 50), (.int 51), (.int 52), (.int 53), (.int 54), (.int 55), (.int 56), (.int 57), (.int 65), (.int 66), (.int 67), (.int 68), (.int 69), (.int 70)] (.int 0) (own_hexb (own_hi u1)) h283 n0 zs284 f299 qC qF xE283 xC283 xF283 xV283 (own_ix16 (own_hiR _)).1 (own_ix16 (own_hiR _)).2 (own_hexT (own_hiR _))) hZ (H 116 rfl) (H 21 rfl) (by decide) (by decide)) qa300 qc300 (g := (own_top pre298)) rfl (by rw [hml]; rfl) (Steps.refl _) (argsL := [(.int (own_hi u1))]) (rest := [(.ref b1)]) (lenOf pd_19 rfl) rfl (by show 2 * 0 + _ ≤ _; exact Nat.le_of_eq rfl) (hb hby d1_131) (fun _ _ => ⟨rfl, e283, (by decide : 10 + 0 ≤ _), (by decide : 214 + 0 ≤ _)⟩)
   dsimp only [Pt.U, Pt.locs, Pt.cells, Pt.slots] at X300 l300 y300 z300 st300 hQ300
   subst l300 y300 z300
   obtain ⟨rfl, Nq300, eq300⟩ := hQ300
   have N300 := Fr.app N254 Nq300
   have pre301 : own_Go p e below S0 (T300.setTop (mkF m 134 #[vR a1, vR b1, vR a1, vI 2, vI 1, vI u1, vI (own_cb u1)] [(.int (own_lc (own_hexb (own_hi u1)))), (.ref b1)])) := by
    intro t kt
    refine pre298 t ?_
    refine st300.trans ?_
    show Steps p.tables e below (T300.setTop (mkF m 134 #[vR a1, vR b1, vR a1, vI 2, vI 1, vI u1, vI (own_cb u1)] [(.int (own_lc (own_hexb (own_hi u1)))), (.ref b1)])) _
    exact kt
   have f303 : Arv Z h283 a1 k1 .byte (2 : Int32) [(.int u0), (.int u1)] (.int 0) := ((f241.keep K254 (ninS ne2 (ninS qj237 nin0))).ext E283)
   have lt302 : a1 < h283.size := f303.lt
   have f305 : Exa Z h283 b1 "java/lang/StringBuilder" := (g265.ext E283)
   have lt304 : b1 < h283.size := f305.lt
   have f307 : Exa Z h283 b19 "[B" := ((f252.keep K254).ext E283)
   have lt306 : b19 < h283.size := f307.lt
   have f309 : Exa Z h283 va1 "[B" := (f282.ext E283)
   have lt308 : va1 < h283.size := f309.lt
   have lt310 : b283 < h283.size := xE283.lt
   have lt311 : v283 < h283.size := xV283.lt
   have f312 : Fld Z h283 b1 "java/lang/AbstractStringBuilder" "value" "[B" (.ref vb255) := (g266.ext E283)
   have f313 : Fld Z h283 b1 "java/lang/AbstractStringBuilder" "coder" "B" (.int 0) := (g267.ext E283)
   have f314 : Fld Z h283 b1 "java/lang/AbstractStringBuilder" "count" "I" (.int (own_len ((([] : List Int32) ++ (own_e1 u0)) ++ [(37 : Int32)]))) := (g268.ext E283)
   have f315 : Exa Z h283 vb255 "[B" := (g262.ext E283)
   have f316 : Arv Z h283 vb255 kb256 .byte z2257 vs2258 (.int 0) := (g263.ext E283)
   obtain ⟨cq317, kq317, qa317, qb317, qc317⟩ := isOf hZ eq300 f305
   obtain ⟨_, _, ⟨T317, L317, k317, n317⟩, -, X317, ⟨Lc317, hQ317, l317, y317, z317⟩, st317⟩ := X300.virtualBack hx (y := own_m21) (z := own_m21) hown (mvT hZ (H 90 rfl)) (mvT hZ (H 91 rfl)) (notFace_of_selects (args := #[]) (mvT hZ (H 93 rfl))) (mvT hZ (H 93 rfl)) (mvT hZ (H 92 rfl)) (by decide) (backOf (W := 0) (rmsaA2 l Z a0 hw [] b1 (own_lc (own_hexb (own_hi u1))) wC vb255 kb256 z2257 vs2258 ((([] : List Int32) ++ (own_e1 u0)) ++ [(37 : Int32)]) h283 n0 zs284 f299 qC f305 f312 f313 f314 f315 f316 ge3 g260 g261 g264 (by have q0 := own_e1L u0; simp only [List.length_append, List.length_cons, List.length_nil]; omega) (own_canR (own_lcR _).2)) hZ (H 94 rfl) (H 7 rfl) (by decide) (by decide)) qa317 qc317 (g := (own_top pre301)) rfl (by rw [hml]; rfl) (Steps.refl _) (argsL := [(.int (own_lc (own_hexb (own_hi u1))))]) (rest := []) (lenOf pd_18 rfl) rfl (by show 2 * 0 + _ ≤ _; exact Nat.le_of_eq rfl) (hb hby d1_134) (fun _ _ => ⟨rfl, eq300, (by decide : 10 + 1 ≤ _), (by decide : 214 + 18 ≤ _)⟩)
   dsimp only [Pt.U, Pt.locs, Pt.cells, Pt.slots] at X317 l317 y317 z317 st317 hQ317
   subst l317 y317 z317
   obtain ⟨vb318, kb319, z2320, vs2321, rfl, Nq317, K317, g322, g323, g324, g325, g326, g327, g328, g329, g330, g331⟩ := hQ317
   have N317 := Fr.app N300 Nq317
   have zs332 : n0 ≤ T317.heap.size := Nat.le_trans zs284 K317.1
   have kc333 : Keep h0 T317.heap [] := kc285.trans K317 (allS (Or.inr sz5) (allS (Or.inr sz278) all0))
   have kc334 : Keep hj48 T317.heap [b1, va1] := kc286.trans K317 (allS (Or.inl (List.mem_of_getElem? (i := 0) rfl)) (allS sd279 all0))
   have hk335 : _ ≤ T317.heap.size := Nat.le_trans hk283 K317.1
   have ch336 : CHr Z own_EL s.vm h0 T283.vm T317.heap := ch287.trans (CHr.keep K317 (allS sf288 (allS sf290 all0)) ch287.1)
   have sf337 : Safe Z own_EL T283.vm T317.heap b1 := Safe.keep K317 (allS sf288 (allS sf290 all0)) ch287.1 sf288
   have sf338 : Safe Z own_EL T283.vm T317.heap va1 := Safe.keep K317 (allS sf288 (allS sf290 all0)) ch287.1 sf289
   have sf339 : Safe Z own_EL T283.vm T317.heap vb255 := Safe.keep K317 (allS sf288 (allS sf290 all0)) ch287.1 sf290
   have ne340 : a1 ≠ vb318 := by
    rcases g322 with q | q
    ·rw [q]; exact ne276
    ·exact Nat.ne_of_lt (Nat.lt_of_lt_of_le lt302 q)
   have ne341 : b1 ≠ vb318 := by
    rcases g322 with q | q
    ·rw [q]; exact g261
    ·exact Nat.ne_of_lt (Nat.lt_of_lt_of_le lt304 q)
   have ne342 : b283 ≠ vb318 := by
    rcases g322 with q | q
    ·rw [q]; exact (Ne.symm ne295)
    ·exact Nat.ne_of_lt (Nat.lt_of_lt_of_le lt310 q)
   have ne343 : v283 ≠ vb318 := by
    rcases g322 with q | q
    ·rw [q]; exact (Ne.symm ne296)
    ·exact Nat.ne_of_lt (Nat.lt_of_lt_of_le lt311 q)
   have sz344 : h0.size ≤ vb318 := by
    rcases g322 with q | q
    ·rw [q]; exact sz278
    ·exact Nat.le_trans kc285.1 q
   have sd345 : vb318 ∈ [b1, va1] ∨ hj48.size ≤ vb318 := by
    rcases g322 with q | q
    ·rw [q]; exact sd279
    ·exact Or.inr (Nat.le_trans kc286.1 q)
   have sf346 : Safe Z own_EL T283.vm T317.heap vb318 := by
    rcases g322 with q | q
    ·rw [q]; exact sf339
    ·exact Safe.keep K317 (allS sf288 (allS sf290 all0)) ch287.1 (Safe.new q)
   have pre347 : own_Go p e below S0 (T317.setTop (mkF m 137 #[vR a1, vR b1, vR a1, vI 2, vI 1, vI u1, vI (own_cb u1)] [(.ref b1)])) := by
    intro t kt
    refine pre301 t ?_
    refine st317.trans ?_
    show Steps p.tables e below (T317.setTop (mkF m 137 #[vR a1, vR b1, vR a1, vI 2, vI 1, vI u1, vI (own_cb u1)] [(.ref b1)])) _
    exact kt
   have pre348 : own_Go p e below S0 (T317.setTop (mkF m 144 #[vR a1, vR b1, vR a1, vI 2, vI 1, vI u1, vI (own_cb u1)] [(.int ((own_cb u1) &&& (15 : Int32))), (.ref b283), (.ref b1)])) := by
    intro t kt
    refine pre347 t ?_
    refine ldcAgain (s := s) (vm0 := T283.vm) X317 hx hZ hown (H 109 rfl) L283 (g := (own_top pre347)) rfl (hb hby d1_137) _ ?_
    refine XS.iload X317.here hx rfl (hb hby d1_139) rfl ?_
    refine XS.bipush X317.here hx rfl (hb hby d1_141) ?_
    refine XS.iand X317.here hx rfl (hb hby d1_143) rfl ?_
    exact kt
   have pre349 : own_Go p e below S0 (T317.setTop (mkF m 144 #[vR a1, vR b1, vR a1, vI 2, vI 1, vI u1, vI (own_cb u1)] [(.int (own_lo u1)), (.ref b283), (.ref b1)])) := by
    intro t kt
    refine pre348 t ?_
    rw [(rfl : ((own_cb u1) &&& (15 : Int32)) = (own_lo u1))]
    exact kt
   have f350 : Old Z n0 T317.heap := (f299.keep K317 (allS ge3 (allS g260 all0)))
   have f351 : Exa Z T317.heap b283 "java/lang/String" := (xE283.keep K317)
   have f352 : Fld Z T317.heap b283 "java/lang/String" "coder" "B" (.int 0) := (xC283.keep K317 (ninS (Ne.symm ne291) (ninS (Ne.symm ne295) nin0)))
   have f353 : Fld Z T317.heap b283 "java/lang/String" "value" "[B" (.ref v283) := (xF283.keep K317 (ninS (Ne.symm ne291) (ninS (Ne.symm ne295) nin0)))
   have f354 : Arv Z T317.heap v283 kv283 .byte (16 : Int32) [(.int 48), (.int 49), (.int 50), (.int 51), (.int 52), (.int 53), (.int 54), (.int 55), (.int 56), (.int 57), (.int 65), (.int 66), (.int 67), (.int 68), (.int 69), (.int 70)] (.int 0) := (xV283.keep K317 (ninS (Ne.symm ne292) (ninS (Ne.symm ne296) nin0)))
   obtain ⟨cq355, kq355, qa355, qb355, qc355⟩ := isOf hZ rfl f351
   obtain ⟨_, _, ⟨T355, L355, k355, n355⟩, -, X355, ⟨Lc355, hQ355, l355, y355, z355⟩, st355⟩ := X317.virtualBack hx (y := own_m15) (z := own_m15) hown (mvT hZ (H 112 rfl)) (mvT hZ (H 113 rfl)) (notFace_of_selects (args := #[]) (mvT hZ (H 115 rfl))) (mvT hZ (H 115 rfl)) (mvT hZ (H 114 rfl)) (by decide) (backOf (W := 1) (rmchA l Z a0 hw [] b283 (own_lo u1) wC wF v283 kv283 (16 : Int32) [(.int 48), (.int 49), (.int 50), (.int 51), (.int 52), (.int 53), (.int 54), (.int 55), (.int 56), (.int 57), (.int 65), (.int 66), (.int 67), (.int 68), (.int 69), (.int 70)] (.int 0) (own_hexb (own_lo u1)) T317.heap n0 zs332 f350 qC qF f351 f352 f353 f354 (own_ix16 (own_loR _)).1 (own_ix16 (own_loR _)).2 (own_hexT (own_loR _))) hZ (H 116 rfl) (H 21 rfl) (by decide) (by decide)) qa355 qc355 (g := (own_top pre349)) rfl (by rw [hml]; rfl) (Steps.refl _) (argsL := [(.int (own_lo u1))]) (rest := [(.ref b1)]) (lenOf pd_19 rfl) rfl (by show 2 * 0 + _ ≤ _; exact Nat.le_of_eq rfl) (hb hby d1_144) (fun _ _ => ⟨rfl, rfl, (by decide : 11 + 0 ≤ _), (by decide : 232 + 0 ≤ _)⟩)
   dsimp only [Pt.U, Pt.locs, Pt.cells, Pt.slots] at X355 l355 y355 z355 st355 hQ355
   subst l355 y355 z355
   obtain ⟨rfl, Nq355, eq355⟩ := hQ355
   have N355 := Fr.app N317 Nq355
   have pre356 : own_Go p e below S0 (T355.setTop (mkF m 147 #[vR a1, vR b1, vR a1, vI 2, vI 1, vI u1, vI (own_cb u1)] [(.int (own_lc (own_hexb (own_lo u1)))), (.ref b1)])) := by
    intro t kt
    refine pre349 t ?_
    refine st355.trans ?_
    show Steps p.tables e below (T355.setTop (mkF m 147 #[vR a1, vR b1, vR a1, vI 2, vI 1, vI u1, vI (own_cb u1)] [(.int (own_lc (own_hexb (own_lo u1)))), (.ref b1)])) _
    exact kt
   have f358 : Arv Z T317.heap a1 k1 .byte (2 : Int32) [(.int u0), (.int u1)] (.int 0) := (f303.keep K317 (ninS ne2 (ninS ne276 nin0)))
   have lt357 : a1 < T317.heap.size := f358.lt
   have lt359 : b1 < T317.heap.size := g328.lt
   have f361 : Exa Z T317.heap b19 "[B" := (f307.keep K317)
   have lt360 : b19 < T317.heap.size := f361.lt
   have f363 : Exa Z T317.heap va1 "[B" := (f309.keep K317)
   have lt362 : va1 < T317.heap.size := f363.lt
   have f365 : Exa Z T317.heap vb255 "[B" := (f315.keep K317)
   have lt364 : vb255 < T317.heap.size := f365.lt
   have lt366 : b283 < T317.heap.size := f351.lt
   have lt367 : v283 < T317.heap.size := f354.lt
   obtain ⟨cq368, kq368, qa368, qb368, qc368⟩ := isOf hZ eq355 g328
   obtain ⟨_, _, ⟨T368, L368, k368, n368⟩, -, X368, ⟨Lc368, hQ368, l368, y368, z368⟩, st368⟩ := X355.virtualBack hx (y := own_m21) (z := own_m21) hown (mvT hZ (H 90 rfl)) (mvT hZ (H 91 rfl)) (notFace_of_selects (args := #[]) (mvT hZ (H 93 rfl))) (mvT hZ (H 93 rfl)) (mvT hZ (H 92 rfl)) (by decide) (backOf (W := 0) (rmsaA2 l Z a0 hw [] b1 (own_lc (own_hexb (own_lo u1))) wC vb318 kb319 z2320 vs2321 (((([] : List Int32) ++ (own_e1 u0)) ++ [(37 : Int32)]) ++ [(own_lc (own_hexb (own_hi u1)))]) T317.heap n0 zs332 f350 qC g328 g329 g330 g331 g325 g326 ge3 g323 g324 g327 (by have q0 := own_e1L u0; simp only [List.length_append, List.length_cons, List.length_nil]; omega) (own_canR (own_lcR _).2)) hZ (H 94 rfl) (H 7 rfl) (by decide) (by decide)) qa368 qc368 (g := (own_top pre356)) rfl (by rw [hml]; rfl) (Steps.refl _) (argsL := [(.int (own_lc (own_hexb (own_lo u1))))]) (rest := []) (lenOf pd_18 rfl) rfl (by show 2 * 0 + _ ≤ _; exact Nat.le_of_eq rfl) (hb hby d1_147) (fun _ _ => ⟨rfl, eq355, (by decide : 11 + 1 ≤ _), (by decide : 232 + 18 ≤ _)⟩)
   dsimp only [Pt.U, Pt.locs, Pt.cells, Pt.slots] at X368 l368 y368 z368 st368 hQ368
   subst l368 y368 z368
   obtain ⟨vb369, kb370, z2371, vs2372, rfl, Nq368, K368, g373, g374, g375, g376, g377, g378, g379, g380, g381, g382⟩ := hQ368
   have N368 := Fr.app N355 Nq368
   have zs383 : n0 ≤ T368.heap.size := Nat.le_trans zs332 K368.1
   have kc384 : Keep h0 T368.heap [] := kc333.trans K368 (allS (Or.inr sz5) (allS (Or.inr sz344) all0))
   have kc385 : Keep hj48 T368.heap [b1, va1] := kc334.trans K368 (allS (Or.inl (List.mem_of_getElem? (i := 0) rfl)) (allS sd345 all0))
   have hk386 : _ ≤ T368.heap.size := Nat.le_trans hk335 K368.1
   have ch387 : CHr Z own_EL s.vm h0 T283.vm T368.heap := ch336.trans (CHr.keep K368 (allS sf337 (allS sf346 all0)) ch336.1)
   have sf388 : Safe Z own_EL T283.vm T368.heap b1 := Safe.keep K368 (allS sf337 (allS sf346 all0)) ch336.1 sf337
   have sf389 : Safe Z own_EL T283.vm T368.heap va1 := Safe.keep K368 (allS sf337 (allS sf346 all0)) ch336.1 sf338
   have sf390 : Safe Z own_EL T283.vm T368.heap vb255 := Safe.keep K368 (allS sf337 (allS sf346 all0)) ch336.1 sf339
   have sf391 : Safe Z own_EL T283.vm T368.heap vb318 := Safe.keep K368 (allS sf337 (allS sf346 all0)) ch336.1 sf346
   have ne392 : a1 ≠ vb369 := by
    rcases g373 with q | q
    ·rw [q]; exact ne340
    ·exact Nat.ne_of_lt (Nat.lt_of_lt_of_le lt357 q)
   have ne393 : b1 ≠ vb369 := by
    rcases g373 with q | q
    ·rw [q]; exact g324
    ·exact Nat.ne_of_lt (Nat.lt_of_lt_of_le lt359 q)
   have ne394 : b283 ≠ vb369 := by
    rcases g373 with q | q
    ·rw [q]; exact ne342
    ·exact Nat.ne_of_lt (Nat.lt_of_lt_of_le lt366 q)
   have ne395 : v283 ≠ vb369 := by
    rcases g373 with q | q
    ·rw [q]; exact ne343
    ·exact Nat.ne_of_lt (Nat.lt_of_lt_of_le lt367 q)
   have sz396 : h0.size ≤ vb369 := by
    rcases g373 with q | q
    ·rw [q]; exact sz344
    ·exact Nat.le_trans kc333.1 q
   have sd397 : vb369 ∈ [b1, va1] ∨ hj48.size ≤ vb369 := by
    rcases g373 with q | q
    ·rw [q]; exact sd345
    ·exact Or.inr (Nat.le_trans kc334.1 q)
   have sf398 : Safe Z own_EL T283.vm T368.heap vb369 := by
    rcases g373 with q | q
    ·rw [q]; exact sf391
    ·exact Safe.keep K368 (allS sf337 (allS sf346 all0)) ch336.1 (Safe.new q)
   have pre399 : own_Go p e below S0 (T368.setTop (mkF m 151 #[vR a1, vR b1, vR a1, vI 2, vI 1, vI u1, vI (own_cb u1)] [])) := by
    intro t kt
    refine pre356 t ?_
    refine st368.trans ?_
    show Steps p.tables e below (T368.setTop (mkF m 150 #[vR a1, vR b1, vR a1, vI 2, vI 1, vI u1, vI (own_cb u1)] [(.ref b1)])) _
    refine XS.pop X368.here hx rfl (hb hby d1_150) rfl rfl ?_
    exact kt
   exact ⟨vb369, kb370, z2371, vs2372, T368, _, _, T283.vm, _, (Stand.mono X368 (by decide) (by decide)), N368, rfl, kc385, hS283, hk386, hZ, hown, ch387, sf388, sf398, ((show ((((([] : List Int32) ++ (own_e1 u0)) ++ [(37 : Int32)]) ++ [(own_lc (own_hexb (own_hi u1)))]) ++ [(own_lc (own_hexb (own_lo u1)))]) = ((([] : List Int32) ++ (own_e1 u0)) ++ (own_e1 u1)) from by rw [show own_e1 u1 = [37, own_lc (own_hexb (own_hi u1)), own_lc (own_hexb (own_lo u1))] from by rw [own_e1, if_pos hu245]] <;> simp) ▸ g378), g374, g375, g376, g377, g379, g380, g381, ((show ((((([] : List Int32) ++ (own_e1 u0)) ++ [(37 : Int32)]) ++ [(own_lc (own_hexb (own_hi u1)))]) ++ [(own_lc (own_hexb (own_lo u1)))]) = ((([] : List Int32) ++ (own_e1 u0)) ++ (own_e1 u1)) from by rw [show own_e1 u1 = [37, own_lc (own_hexb (own_hi u1)), own_lc (own_hexb (own_lo u1))] from by rw [own_e1, if_pos hu245]] <;> simp) ▸ g382), sz396, ne392, pre399⟩
  ·have pre400 : own_Go p e below S0 (Tj48.setTop (mkF m 109 #[vR a1, vR b1, vR a1, vI 2, vI 1, vI u1, vI (own_cb u1)] [])) := fun t k => pre244 t ((own_test Xj48 hx hby _ _ _ _ _ _ _).2 hu245 t k)
   have pre401 : own_Go p e below S0 (Tj48.setTop (mkF m 112 #[vR a1, vR b1, vR a1, vI 2, vI 1, vI u1, vI (own_cb u1)] [(.int (own_cb u1)), (.ref b1)])) := by
    intro t kt
    refine pre400 t ?_
    refine XS.aloadN Xj48.here hx rfl (hb hby d1_109) rfl rfl ?_
    refine XS.iload Xj48.here hx rfl (hb hby d1_110) rfl ?_
    exact kt
   have lt402 : a1 < hj48.size := f241.lt
   have lt403 : b1 < hj48.size := qj232.lt
   have f405 : Exa Z hj48 b19 "[B" := (g22.keep Kj48)
   have lt404 : b19 < hj48.size := f405.lt
   have f406 : Old Z n0 hj48 := ((f17.keep K18 (allS ge3 all0)).keep Kj48 (allS ge3 (allS ge30 all0)))
   obtain ⟨cq407, kq407, qa407, qb407, qc407⟩ := isOf hZ ej48 qj232
   obtain ⟨_, _, ⟨T407, L407, k407, n407⟩, -, X407, ⟨Lc407, hQ407, l407, y407, z407⟩, st407⟩ := Xj48.virtualBack hx (y := own_m21) (z := own_m21) hown (mvT hZ (H 90 rfl)) (mvT hZ (H 91 rfl)) (notFace_of_selects (args := #[]) (mvT hZ (H 93 rfl))) (mvT hZ (H 93 rfl)) (mvT hZ (H 92 rfl)) (by decide) (backOf (W := 0) (rmsaA2 l Z a0 hw [] b1 (own_cb u1) wC va1 kv1 zv1 lv1 (([] : List Int32) ++ (own_e1 u0)) hj48 n0 zs238 f406 qC qj232 qj233 qj234 qj235 qj230 qj231 ge3 qj228 qj229 pj227 (by have q0 := own_e1L u0; simp only [List.length_append, List.length_cons, List.length_nil]; omega) (own_canR (own_cbR _).2)) hZ (H 94 rfl) (H 7 rfl) (by decide) (by decide)) qa407 qc407 (g := (own_top pre401)) rfl (by rw [hml]; rfl) (Steps.refl _) (argsL := [(.int (own_cb u1))]) (rest := []) (lenOf pd_18 rfl) rfl (by show 2 * 0 + _ ≤ _; exact Nat.le_of_eq rfl) (hb hby d1_112) (fun _ _ => ⟨rfl, ej48, (by decide : 7 + 1 ≤ _), (by decide : 128 + 18 ≤ _)⟩)
   dsimp only [Pt.U, Pt.locs, Pt.cells, Pt.slots] at X407 l407 y407 z407 st407 hQ407
   subst l407 y407 z407
   obtain ⟨vb408, kb409, z2410, vs2411, rfl, Nq407, K407, g412, g413, g414, g415, g416, g417, g418, g419, g420, g421⟩ := hQ407
   have N407 := Fr.app Nj48 Nq407
   have zs422 : n0 ≤ T407.heap.size := Nat.le_trans zs238 K407.1
   have kc423 : Keep h0 T407.heap [] := kc239.trans K407 (allS (Or.inr sz5) (allS (Or.inr qj236) all0))
   have kc424 : Keep hj48 T407.heap [b1, va1] := kjj246.trans K407 (allS (Or.inl (List.mem_of_getElem? (i := 0) rfl)) (allS (Or.inl (List.mem_of_getElem? (i := 1) rfl)) all0))
   have hk425 : _ ≤ T407.heap.size := Nat.le_trans hkj48 K407.1
   have ch426 : CHr Z own_EL s.vm h0 vmj48 T407.heap := chj48.trans (CHr.keep K407 (allS sfj480 (allS sfj481 all0)) chj48.1)
   have sf427 : Safe Z own_EL vmj48 T407.heap b1 := Safe.keep K407 (allS sfj480 (allS sfj481 all0)) chj48.1 sfj480
   have sf428 : Safe Z own_EL vmj48 T407.heap va1 := Safe.keep K407 (allS sfj480 (allS sfj481 all0)) chj48.1 sfj481
   have ne429 : a1 ≠ vb408 := by
    rcases g412 with q | q
    ·rw [q]; exact qj237
    ·exact Nat.ne_of_lt (Nat.lt_of_lt_of_le lt402 q)
   have ne430 : b1 ≠ vb408 := by
    rcases g412 with q | q
    ·rw [q]; exact qj229
    ·exact Nat.ne_of_lt (Nat.lt_of_lt_of_le lt403 q)
   have sz431 : h0.size ≤ vb408 := by
    rcases g412 with q | q
    ·rw [q]; exact qj236
    ·exact Nat.le_trans kc239.1 q
   have sd432 : vb408 ∈ [b1, va1] ∨ hj48.size ≤ vb408 := by
    rcases g412 with q | q
    ·rw [q]; exact Or.inl (List.mem_of_getElem? (i := 1) rfl)
    ·exact Or.inr (Nat.le_trans kjj246.1 q)
   have sf433 : Safe Z own_EL vmj48 T407.heap vb408 := by
    rcases g412 with q | q
    ·rw [q]; exact sf428
    ·exact Safe.keep K407 (allS sfj480 (allS sfj481 all0)) chj48.1 (Safe.new q)
   have pre434 : own_Go p e below S0 (T407.setTop (mkF m 151 #[vR a1, vR b1, vR a1, vI 2, vI 1, vI u1, vI (own_cb u1)] [])) := by
    intro t kt
    refine pre401 t ?_
    refine st407.trans ?_
    show Steps p.tables e below (T407.setTop (mkF m 115 #[vR a1, vR b1, vR a1, vI 2, vI 1, vI u1, vI (own_cb u1)] [(.ref b1)])) _
    refine XS.pop X407.here hx rfl (hb hby d1_115) rfl rfl ?_
    refine XS.goto X407.here hx rfl (pc0 := 116) (pc' := 151) rfl (hb hby d1_116) (by decide) (by decide) ?_
    exact kt
   exact ⟨vb408, kb409, z2410, vs2411, T407, _, _, vmj48, _, (Stand.mono X407 (by decide) (by decide)), N407, rfl, kc424, hSj48, hk425, hZ, hown, ch426, sf427, sf433, ((show ((([] : List Int32) ++ (own_e1 u0)) ++ [(own_cb u1)]) = ((([] : List Int32) ++ (own_e1 u0)) ++ (own_e1 u1)) from by rw [show own_e1 u1 = [own_cb u1] from by rw [own_e1, if_neg hu245]] <;> simp) ▸ g417), g413, g414, g415, g416, g418, g419, g420, ((show ((([] : List Int32) ++ (own_e1 u0)) ++ [(own_cb u1)]) = ((([] : List Int32) ++ (own_e1 u0)) ++ (own_e1 u1)) from by rw [show own_e1 u1 = [own_cb u1] from by rw [own_e1, if_neg hu245]] <;> simp) ▸ g421), sz431, ne429, pre434⟩
 have zs446 : n0 ≤ hj246.size := Nat.le_trans zs238 Kj246.1
 have kc447 : Keep h0 hj246 [] := kc239.trans Kj246 (allS (Or.inr sz5) (allS (Or.inr qj236) all0))
 have pre448 : own_Go p e below S0 (Tj246.setTop (mkF m 158 #[vR a1, vR b1, vR a1, vI 2, vI 2, vI u1, vI (own_cb u1)] [(.ref b1)])) := by
  intro t kt
  refine prej246 t ?_
  refine XS.iinc Xj246.here hx rfl (hb hby d1_151) rfl (l' := #[vR a1, vR b1, vR a1, vI 2, vI 2, vI u1, vI (own_cb u1)]) rfl ?_
  refine XS.goto Xj246.here hx rfl (pc0 := 154) (pc' := 18) rfl (hb hby d1_154) (by decide) (by decide) ?_
  refine XS.iload Xj246.here hx rfl (hb hby d1_18) rfl ?_
  refine XS.iloadN Xj246.here hx rfl (hb hby d1_20) rfl ?_
  refine XS.icmpYes Xj246.here hx rfl (pc0 := 21) (pc' := 157) rfl (hb hby d1_21) rfl (flt (by decide : ¬ ((2 : Int32) < (2 : Int32)))).2.1 (by decide) (by decide) ?_
  refine XS.aloadN Xj246.here hx rfl (hb hby d1_157) rfl rfl ?_
  exact kt
 have f449 : Old Z n0 hj246 := (((f17.keep K18 (allS ge3 all0)).keep Kj48 (allS ge3 (allS ge30 all0))).keep Kj246 (allS ge3 (allS qj228 all0)))
 obtain ⟨cq450, kq450, qa450, qb450, qc450⟩ := isOf hZ ej246 qj440
 obtain ⟨_, _, ⟨T450, L450, k450, n450⟩, -, X450, ⟨Lc450, hQ450, l450, y450, z450⟩, st450⟩ := Xj246.virtualBack hx (y := own_m23) (z := own_m23) hown (mvT hZ (H 26 rfl)) (mvT hZ (H 27 rfl)) (notFace_of_selects (args := #[]) (mvT hZ (H 29 rfl))) (mvT hZ (H 29 rfl)) (mvT hZ (H 28 rfl)) (by decide) (backOf (W := 0) (rmts l Z a0 hw [] b1 wC va2 kv2 zv2 lv2 ((([] : List Int32) ++ (own_e1 u0)) ++ (own_e1 u1)) hj246 n0 zs446 f449 qC qj440 qj441 qj442 qj443 qj438 qj439 (own_fitC2 pj435 (by have q0 := own_e1L u0; have q1 := own_e1L u1; simp only [List.length_append, List.length_cons, List.length_nil]; omega))) hZ (H 30 rfl) (H 7 rfl) (by decide) (by decide)) qa450 qc450 (g := (own_top pre448)) rfl (by rw [hml]; rfl) (Steps.refl _) (argsL := []) (rest := []) (lenOf pd_17 rfl) rfl (by show 2 * 0 + _ ≤ _; exact Nat.le_of_eq rfl) (hb hby d1_158) (fun _ _ => ⟨rfl, ej246, (by decide : 12 + 2 ≤ _), (by decide : 250 + 13 ≤ _)⟩)
 dsimp only [Pt.U, Pt.locs, Pt.cells, Pt.slots] at X450 l450 y450 z450 st450 hQ450
 subst l450 y450 z450
 obtain ⟨b451, vb452, kb453, rfl, Nq450, K450, g454, g455, g456⟩ := hQ450
 have N450 := Fr.app Nj246 Nq450
 have f457 : Arv Z hj246 a1 k1 .byte (2 : Int32) [(.int u0), (.int u1)] (.int 0) := (f241.keep Kj246 (ninS ne2 (ninS qj237 nin0)))
 have ne458 : a1 ≠ b451 := Nat.ne_of_lt (Nat.lt_of_lt_of_le f457.lt g454)
 have ne459 : b1 ≠ b451 := Nat.ne_of_lt (Nat.lt_of_lt_of_le qj440.lt g454)
 have f460 : Exa Z hj246 b19 "[B" := ((g22.keep Kj48).keep Kj246)
 have ne461 : b19 ≠ b451 := Nat.ne_of_lt (Nat.lt_of_lt_of_le f460.lt g454)
 have f462 : Exa Z hj246 va1 "[B" := (qj230.keep Kj246)
 have ne463 : va1 ≠ b451 := Nat.ne_of_lt (Nat.lt_of_lt_of_le f462.lt g454)
 have ne464 : va2 ≠ b451 := Nat.ne_of_lt (Nat.lt_of_lt_of_le qj438.lt g454)
 have ge465 : n0 ≤ b451 := Nat.le_trans zs446 g454
 have sf466 : Safe Z own_EL vmj246 hj246 b451 := Safe.new g454
 have sz467 : h0.size ≤ b451 := Nat.le_trans kc447.1 g454
 have ne468 : a1 ≠ vb452 := Nat.ne_of_lt (Nat.lt_of_lt_of_le f457.lt g455)
 have ne469 : b1 ≠ vb452 := Nat.ne_of_lt (Nat.lt_of_lt_of_le qj440.lt g455)
 have ne470 : b19 ≠ vb452 := Nat.ne_of_lt (Nat.lt_of_lt_of_le f460.lt g455)
 have ne471 : va1 ≠ vb452 := Nat.ne_of_lt (Nat.lt_of_lt_of_le f462.lt g455)
 have ne472 : va2 ≠ vb452 := Nat.ne_of_lt (Nat.lt_of_lt_of_le qj438.lt g455)
 have ge473 : n0 ≤ vb452 := Nat.le_trans zs446 g455
 have sf474 : Safe Z own_EL vmj246 hj246 vb452 := Safe.new g455
 have sz475 : h0.size ≤ vb452 := Nat.le_trans kc447.1 g455
 have zs476 : n0 ≤ T450.heap.size := Nat.le_trans zs446 K450.1
 have kc477 : Keep h0 T450.heap [] := kc447.trans K450 all0
 have hk478 : _ ≤ T450.heap.size := Nat.le_trans hkj246 K450.1
 have ch479 : CHr Z own_EL s.vm h0 vmj246 T450.heap := chj246.trans (CHr.keep K450 all0 chj246.1)
 have sf480 : Safe Z own_EL vmj246 T450.heap b1 := Safe.keep K450 all0 chj246.1 sfj2460
 have sf481 : Safe Z own_EL vmj246 T450.heap va2 := Safe.keep K450 all0 chj246.1 sfj2461
 have sf482 : Safe Z own_EL vmj246 T450.heap b451 := Safe.keep K450 all0 chj246.1 sf466
 have sf483 : Safe Z own_EL vmj246 T450.heap vb452 := Safe.keep K450 all0 chj246.1 sf474
 have pre484 : own_Go p e below S0 (T450.setTop (mkF m 161 #[vR a1, vR b1, vR a1, vI 2, vI 2, vI u1, vI (own_cb u1)] [(.ref b451)])) := by
  intro t kt
  refine pre448 t ?_
  refine st450.trans ?_
  show Steps p.tables e below (T450.setTop (mkF m 161 #[vR a1, vR b1, vR a1, vI 2, vI 2, vI u1, vI (own_cb u1)] [(.ref b451)])) _
  exact kt
 obtain ⟨fs, hr, hrun, hended, hRW⟩ := Stand.leaveW (s := s) (vm₁ := vmj246) X450 hSj246 hk478 (v := some (.ref b451)) (fun h => by rw [Bd.returns] at h; cases h)
 refine ⟨_, _, fin _ (pre484 _ ?_), hrun, hended, _, _, rfl, ?_, (by rw [hh]; show CHr Z own_EL s.vm h0 T450.vm T450.heap; exact ch479.trans (CHv.at (s := s) (vm0 := vmj246) X450 hZ (own_EW a0 Z hw) ch479.1)), own_wideMono hRW (by decide) (by decide)⟩
 ·jvm_step X450.here [X450.here.top, hx, (hb hby d1_161), X450.method', Bd.returns, Value.isRef, FieldType.isReference]
  first | (intro acts; rw [hr _ acts rfl rfl rfl]) | rw [hr _ _ rfl rfl rfl]
  exact Steps.refl _
 ·show Qenc2 Z a1 wC wF k1 u0 u1 h0 n0 _ T450.heap _
  exact ⟨b451, vb452, kb453, rfl, N450, kc477, sz467, ((show ((([] : List Int32) ++ (own_e1 u0)) ++ (own_e1 u1)) = (own_enc2 u0 u1) from by simp [own_enc2]) ▸ g456)⟩

theorem ef_enc3 (m : MethodId) (x0 : Addr) : entryFrame m #[(.ref x0)] 7 = mkF m 0 #[vR x0, .unset, .unset, .unset, .unset, .unset, .unset] [] := by first | (simp [entryFrame, mkF, argsToLocals, Value.category]; done) | rfl
def Qenc3 (Z : State) (a1 : Addr) (wC : Int32) (wF : Value) (k1 : ClassId) (u0 : Int32) (u1 : Int32) (u2 : Int32) (h0 : Heap) (n0 : Nat) (v : Option Value) (h : Heap) (L : List Loc) : Prop := ∃ b : Addr, ∃ vb : Addr, ∃ kb : ClassId, v = (some (.ref b)) ∧ Fr n0 L ∧ Keep h0 h [] ∧ h0.size ≤ b ∧ own_StrL Z h b vb kb (own_enc3 u0 u1 u2)
set_option maxRecDepth 65536 in
set_option maxHeartbeats 40000000 in
theorem rmenc3 (l : Launch) (Z : State) (a0 : Array Value) (hw : ∀ d ∈ tables_1, d.before a0 Z = true) (ws : List Jvm.Cond) (a1 : Addr) (wC : Int32) (wF : Value) (k1 : ClassId) (u0 : Int32) (u1 : Int32) (u2 : Int32) (h0 : Heap) (n0 : Nat) (Z0 : n0 ≤ h0.size) (O0 : Old Z n0 h0) (qC : (own_SC Z wC)) (qF : (own_SF Z wF)) (V1 : Arv Z h0 a1 k1 .byte (3 : Int32) [(.int u0), (.int u1), (.int u2)] (.int 0)) :
  MetFree l own_m0 (head1 (Jvm.Cond.code own_m0 prog_35_method_5_code 7 (some (.object "java/lang/String")) :: ws) (own_r 7 19 386 117)) (fun a U => a = #[(.ref a1)] ∧ Z.Warmed39 U.vm ∧ U.heap = h0 ∧ CHv Z own_EL U.vm h0 ∧ ∀ x ∈ ([] : List Addr), Safe Z own_EL U.vm h0 x) (fun _ _ _ _ _ => True) (fun _ U o U' => ∃ v L, o = .returned v ∧ Qenc3 Z a1 wC wF k1 u0 u1 u2 h0 n0 v U'.heap L ∧ CHr Z own_EL U.vm U.heap U'.vm U'.heap ∧ ReturnedEndW U o U' L (own_r 7 19 386 117).cells (own_r 7 19 386 117).slots) := by
 refine MetFree.of_bodySF (plainFor_of_name pn_1) hisR ?_
 intro p e s m args below meth c s₁ Bd hml0 hP hK
 have H : ∀ (i : Nat) {d : Jvm.Cond}, tables_1[i]? = some d → d.before a0 Z = true := fun i _ h => hw _ (own_w i h)
 obtain ⟨rfl, hZ, hh, hCH, hSF⟩ := hP
 have hx := Bd.exec
 have hby := Bd.bytes
 have hml : c.maxLocals = 7 := hml0
 have hown0 := findClass_of_methodNamed Bd.named
 have hown : s.vm.findClass "com/example/permgrid/permgrid/PercentEncoding" = some m.cls := hown0
 have hnm := (name_of_methodNamed Bd.named Bd.method).1
 have X0 : Stand p l e (own_r 7 19 386 117) s m #[(.ref a1)] below meth c s₁ [] 0 0 := Stand.of_body Bd
 have e0 : s₁.heap = h0 := by rw [← hh, Bd.state]; rfl
 have N0 := Fr.nil n0
 obtain ⟨S0, hS0⟩ : ∃ z, z = s₁.setTop (entryFrame m #[(.ref a1)] 7) := ⟨_, rfl⟩
 have pre0 : own_Go p e below S0 (s₁.setTop (mkF m 0 #[vR a1, .unset, .unset, .unset, .unset, .unset, .unset] [])) := fun t k => by rw [hS0]; exact castTop (ef_enc3 m a1) k
 have fin : ∀ t, Steps p.tables e below S0 t → Steps p.tables e below (s₁.setTop (entryFrame m #[(.ref a1)] 7)) t := fun t k => by rw [hS0] at k; exact k
 have ch0 : CHr Z own_EL s.vm h0 s.vm h0 := CHr.refl hCH
 have kc0 : Keep h0 h0 [] := Keep.refl _ _
 obtain ⟨T1, h1, X1, e1, E1, A1, D1, -, st1⟩ := newO X0 hx hZ hown (H 5 rfl) (H 6 rfl) (H 7 rfl) e0 (g := (own_top pre0)) rfl (hb hby d1_0) (by decide) (by decide)
 obtain ⟨b1, g1⟩ : ∃ z, z = h0.size := ⟨_, rfl⟩
 rw [← g1] at A1 D1 st1
 have ne2 : a1 ≠ b1 := Nat.ne_of_lt (Nat.lt_of_lt_of_le V1.lt (Nat.le_of_eq g1.symm))
 have ge3 : n0 ≤ b1 := Nat.le_trans Z0 (Nat.le_of_eq g1.symm)
 have sf4 : Safe Z own_EL s.vm h0 b1 := Safe.new (Nat.le_of_eq g1.symm)
 have sz5 : h0.size ≤ b1 := Nat.le_trans kc0.1 (Nat.le_of_eq g1.symm)
 have zs6 : n0 ≤ h1.size := Nat.le_trans Z0 E1.1
 have kc7 : Keep h0 h1 [] := kc0.ext E1
 have ch8 : CHr Z own_EL s.vm h0 s.vm h1 := ch0.trans (CHr.ext E1 ch0.1)
 have sf9 : Safe Z own_EL s.vm h1 b1 := Safe.ext E1 ch0.1 sf4
 have fd10 : Fld Z h1 b1 "java/lang/AbstractStringBuilder" "value" "[B" .null := D1 (Or.inl (H 23 rfl)) (ty := (.array .byte)) (by decide)
 have fd11 : Fld Z h1 b1 "java/lang/AbstractStringBuilder" "coder" "B" (.int 0) := D1 (Or.inl (H 25 rfl)) (ty := .byte) (by decide)
 have fd12 : Fld Z h1 b1 "java/lang/AbstractStringBuilder" "count" "I" (.int 0) := D1 (Or.inl (H 56 rfl)) (ty := .int) (by decide)
 have pre13 : own_Go p e below S0 (T1.setTop (mkF m 5 #[vR a1, .unset, .unset, .unset, .unset, .unset, .unset] [(.ref a1), (.ref b1), (.ref b1)])) := by
  intro t kt
  refine pre0 t ?_
  refine st1 _ ?_
  refine XS.dup X1.here hx rfl (hb hby d1_3) rfl rfl ?_
  refine XS.aloadN X1.here hx rfl (hb hby d1_4) rfl rfl ?_
  exact kt
 have f14 : Arv Z h1 a1 k1 .byte (3 : Int32) [(.int u0), (.int u1), (.int u2)] (.int 0) := (V1.ext E1)
 obtain ⟨cl15, Ar15, -, Sz15, Ng15, -, -⟩ := id f14
 have pre16 : own_Go p e below S0 (T1.setTop (mkF m 6 #[vR a1, .unset, .unset, .unset, .unset, .unset, .unset] [(.int 3), (.ref b1), (.ref b1)])) := by
  intro t kt
  refine pre13 t ?_
  refine X1.arraylength hx (by rw [e1]; exact Ar15.1) (State.isArrayOf_alike hZ.alike Ar15.2.1) (g := (own_top pre13)) rfl rfl (hb hby d1_5) _ ?_
  rw [len_of Sz15 Ng15]
  show Steps p.tables e below (T1.setTop (mkF m 6 #[vR a1, .unset, .unset, .unset, .unset, .unset, .unset] [(.int 3), (.ref b1), (.ref b1)])) _
  exact kt
 have f17 : Old Z n0 h1 := (O0.ext E1)
 obtain ⟨_, _, ⟨T18, L18, k18, n18⟩, -, X18, ⟨Lc18, hQ18, l18, y18, z18⟩, st18⟩ := X1.specialBack hx (y := own_m20) rfl hown (mvT hZ (H 8 rfl)) (mvT hZ (H 9 rfl)) (mvT hZ (H 10 rfl)) (by decide) (backOf (W := 1) (rmsi3 l Z a0 hw [] b1 wC h1 n0 zs6 f17 qC A1 fd10 fd11 fd12 ge3) hZ (H 10 rfl) (H 7 rfl) (by decide) (by decide)) (g := (own_top pre16)) rfl (by rw [hml]; rfl) (Steps.refl _) (a := b1) (argsL := [(.int 3)]) (rest := [(.ref b1)]) (lenOf pd_4 rfl) rfl (by show 2 * 0 + _ ≤ _; exact Nat.le_of_eq rfl) (hb hby d1_6) (fun _ _ => ⟨rfl, e1, (by decide : 1 + 1 ≤ _), (by decide : 4 + 3 ≤ _)⟩)
 dsimp only [Pt.U, Pt.locs, Pt.cells, Pt.slots] at X18 l18 y18 z18 st18 hQ18
 subst l18 y18 z18
 obtain ⟨b19, kb20, rfl, Nq18, K18, g21, g22, g23, g24, g25, g26, g27⟩ := hQ18
 have N18 := Fr.app N0 Nq18
 have ne28 : a1 ≠ b19 := Nat.ne_of_lt (Nat.lt_of_lt_of_le f14.lt g21)
 have ne29 : b1 ≠ b19 := Nat.ne_of_lt (Nat.lt_of_lt_of_le A1.lt g21)
 have ge30 : n0 ≤ b19 := Nat.le_trans zs6 g21
 have sf31 : Safe Z own_EL s.vm h1 b19 := Safe.new g21
 have sz32 : h0.size ≤ b19 := Nat.le_trans kc7.1 g21
 have zs33 : n0 ≤ T18.heap.size := Nat.le_trans zs6 K18.1
 have kc34 : Keep h0 T18.heap [] := kc7.trans K18 (allS (Or.inr sz5) all0)
 have ch35 : CHr Z own_EL s.vm h0 s.vm T18.heap := ch8.trans (CHr.keep K18 (allS sf9 all0) ch8.1)
 have sf36 : Safe Z own_EL s.vm T18.heap b1 := Safe.keep K18 (allS sf9 all0) ch8.1 sf9
 have sf37 : Safe Z own_EL s.vm T18.heap b19 := Safe.keep K18 (allS sf9 all0) ch8.1 sf31
 have pre38 : own_Go p e below S0 (T18.setTop (mkF m 13 #[vR a1, vR b1, vR a1, .unset, .unset, .unset, .unset] [(.ref a1)])) := by
  intro t kt
  refine pre16 t ?_
  refine st18.trans ?_
  show Steps p.tables e below (T18.setTop (mkF m 9 #[vR a1, .unset, .unset, .unset, .unset, .unset, .unset] [(.ref b1)])) _
  refine XS.astoreN X18.here hx rfl (hb hby d1_9) rfl rfl (l' := #[vR a1, vR b1, .unset, .unset, .unset, .unset, .unset]) rfl ?_
  refine XS.aloadN X18.here hx rfl (hb hby d1_10) rfl rfl ?_
  refine XS.astoreN X18.here hx rfl (hb hby d1_11) rfl rfl (l' := #[vR a1, vR b1, vR a1, .unset, .unset, .unset, .unset]) rfl ?_
  refine XS.aloadN X18.here hx rfl (hb hby d1_12) rfl rfl ?_
  exact kt
 have f39 : Arv Z T18.heap a1 k1 .byte (3 : Int32) [(.int u0), (.int u1), (.int u2)] (.int 0) := (f14.keep K18 (ninS ne2 nin0))
 obtain ⟨cl40, Ar40, -, Sz40, Ng40, -, -⟩ := id f39
 have ft41 : own_Fit3 (3 : Int32) [(.int 0), (.int 0), (.int 0)] ([] : List Int32) := (Or.inl ⟨rfl, rfl, rfl⟩)
 have fc42 : Fld Z T18.heap b1 "java/lang/AbstractStringBuilder" "count" "I" (.int (own_len ([] : List Int32))) := g27
 have pre43 : own_Go p e below S0 (T18.setTop (mkF m 27 #[vR a1, vR b1, vR a1, vI 3, vI 0, .unset, .unset] [(.int 0), (.ref a1)])) := by
  intro t kt
  refine pre38 t ?_
  refine X18.arraylength hx Ar40.1 (State.isArrayOf_alike hZ.alike Ar40.2.1) (g := (own_top pre38)) rfl rfl (hb hby d1_13) _ ?_
  rw [len_of Sz40 Ng40]
  show Steps p.tables e below (T18.setTop (mkF m 14 #[vR a1, vR b1, vR a1, .unset, .unset, .unset, .unset] [(.int 3)])) _
  refine XS.istoreN X18.here hx rfl (hb hby d1_14) rfl (l' := #[vR a1, vR b1, vR a1, vI 3, .unset, .unset, .unset]) rfl ?_
  refine XS.iconst X18.here hx rfl (hb hby d1_15) ?_
  refine XS.istore X18.here hx rfl (hb hby d1_16) rfl (l' := #[vR a1, vR b1, vR a1, vI 3, vI 0, .unset, .unset]) rfl ?_
  refine XS.iload X18.here hx rfl (hb hby d1_18) rfl ?_
  refine XS.iloadN X18.here hx rfl (hb hby d1_20) rfl ?_
  refine XS.icmpNo X18.here hx rfl (hb hby d1_21) rfl (tlt (by decide : (0 : Int32) < (3 : Int32))).2.1 ?_
  refine XS.aloadN X18.here hx rfl (hb hby d1_24) rfl rfl ?_
  refine XS.iload X18.here hx rfl (hb hby d1_25) rfl ?_
  exact kt
 obtain ⟨cl44, Ar44, -, Sz44, -, Hs44, -⟩ := id f39
 have hin44 : ¬ ((0 : Int32) < 0 ∨ cl44.slots.size ≤ ((0 : Int32)).toNatClampNeg) := inb_of Sz44 ⟨by decide, by decide⟩
 have pre45 : own_Go p e below S0 (T18.setTop (mkF m 39 #[vR a1, vR b1, vR a1, vI 3, vI 0, vI u0, vI ((u0 &&& (255 : Int32)).toUInt32.toUInt16.toUInt32.toInt32)] [])) := by
  intro t kt
  refine pre43 t ?_
  refine X18.baloadBytes hx (j := (0 : Int32)) (v := (.int u0)) Ar44.1 (State.isArrayOf_alike hZ.alike Ar44.2.1) Ar44.2.2 hin44 (Hs44.at hin44 rfl) (g := (mkF m 27 #[vR a1, vR b1, vR a1, vI 3, vI 0, .unset, .unset] [(.int 0), (.ref a1)])) rfl rfl (hb hby d1_27) _ ?_
  refine XS.istore X18.here hx rfl (hb hby d1_28) rfl (l' := #[vR a1, vR b1, vR a1, vI 3, vI 0, vI u0, .unset]) rfl ?_
  refine XS.iload X18.here hx rfl (hb hby d1_30) rfl ?_
  refine XS.sipush X18.here hx rfl (hb hby d1_32) ?_
  refine XS.iand X18.here hx rfl (hb hby d1_35) rfl ?_
  refine XS.i2c X18.here hx rfl (hb hby d1_36) rfl ?_
  refine XS.istore X18.here hx rfl (hb hby d1_37) rfl (l' := #[vR a1, vR b1, vR a1, vI 3, vI 0, vI u0, vI ((u0 &&& (255 : Int32)).toUInt32.toUInt16.toUInt32.toInt32)]) rfl ?_
  exact kt
 have pre46 : own_Go p e below S0 (T18.setTop (mkF m 39 #[vR a1, vR b1, vR a1, vI 3, vI 0, vI u0, vI (own_cb u0)] [])) := by
  intro t kt
  refine pre45 t ?_
  rw [(rfl : ((u0 &&& (255 : Int32)).toUInt32.toUInt16.toUInt32.toInt32) = (own_cb u0))]
  exact kt
 obtain ⟨va1, kv1, zv1, lv1, Tj48, lj48, hj48, vmj48, knj48, Xj48, Nj48, ej48, Kj48, hSj48, hkj48, hZ, hown, chj48, sfj480, sfj481, pj227, qj228, qj229, qj230, qj231, qj232, qj233, qj234, qj235, qj236, qj237, prej48⟩ : ∃ (va1 : Addr) (kv1 : ClassId) (zv1 : Int32) (lv1 : List Value) (Tj48 : State) (lj48 : List Loc) (hj48 : Heap) (vmj48 : Vm) (knj48 : Nat), Stand p l e (own_r 7 19 386 117) (s.setVm vmj48) m #[(.ref a1)] below meth c Tj48 lj48 7 129 ∧ Fr n0 lj48 ∧ Tj48.heap = hj48 ∧ Keep T18.heap hj48 [b1, b19] ∧ s.Since vmj48 knj48 ∧ knj48 ≤ hj48.size ∧ Z.Warmed39 (s.setVm vmj48).vm ∧ (s.setVm vmj48).vm.findClass "com/example/permgrid/permgrid/PercentEncoding" = some m.cls ∧ CHr Z own_EL s.vm h0 vmj48 hj48 ∧ Safe Z own_EL vmj48 hj48 b1 ∧ Safe Z own_EL vmj48 hj48 va1 ∧ own_Fit3 zv1 lv1 (([] : List Int32) ++ (own_e1 u0)) ∧ n0 ≤ va1 ∧ b1 ≠ va1 ∧ Exa Z hj48 va1 "[B" ∧ Arv Z hj48 va1 kv1 .byte zv1 lv1 (.int 0) ∧ Exa Z hj48 b1 "java/lang/StringBuilder" ∧ Fld Z hj48 b1 "java/lang/AbstractStringBuilder" "value" "[B" (.ref va1) ∧ Fld Z hj48 b1 "java/lang/AbstractStringBuilder" "coder" "B" (.int 0) ∧ Fld Z hj48 b1 "java/lang/AbstractStringBuilder" "count" "I" (.int (own_len (([] : List Int32) ++ (own_e1 u0)))) ∧ (h0.size ≤ va1) ∧ a1 ≠ va1 ∧ own_Go p e below S0 (Tj48.setTop (mkF m 151 #[vR a1, vR b1, vR a1, vI 3, vI 0, vI u0, vI (own_cb u0)] [])) := by
  have kjj48 : Keep T18.heap T18.heap [b1, b19] := Keep.refl _ _
  by_cases hu47 : (own_unr (own_cb u0)) = (0 : Int32)
  ·have pre49 : own_Go p e below S0 (T18.setTop (mkF m 119 #[vR a1, vR b1, vR a1, vI 3, vI 0, vI u0, vI (own_cb u0)] [])) := fun t k => pre46 t ((own_test X18 hx hby _ _ _ _ _ _ _).1 hu47 t k)
   have pre50 : own_Go p e below S0 (T18.setTop (mkF m 122 #[vR a1, vR b1, vR a1, vI 3, vI 0, vI u0, vI (own_cb u0)] [(.int 37), (.ref b1)])) := by
    intro t kt
    refine pre49 t ?_
    refine XS.aloadN X18.here hx rfl (hb hby d1_119) rfl rfl ?_
    refine XS.bipush X18.here hx rfl (hb hby d1_120) ?_
    exact kt
   have lt51 : a1 < T18.heap.size := f39.lt
   have lt52 : b1 < T18.heap.size := g24.lt
   have f53 : Old Z n0 T18.heap := (f17.keep K18 (allS ge3 all0))
   obtain ⟨cq54, kq54, qa54, qb54, qc54⟩ := isOf hZ rfl g24
   obtain ⟨_, _, ⟨T54, L54, k54, n54⟩, -, X54, ⟨Lc54, hQ54, l54, y54, z54⟩, st54⟩ := X18.virtualBack hx (y := own_m21) (z := own_m21) hown (mvT hZ (H 90 rfl)) (mvT hZ (H 91 rfl)) (notFace_of_selects (args := #[]) (mvT hZ (H 93 rfl))) (mvT hZ (H 93 rfl)) (mvT hZ (H 92 rfl)) (by decide) (backOf (W := 0) (rmsaA3 l Z a0 hw [] b1 (37 : Int32) wC b19 kb20 (3 : Int32) [(.int 0), (.int 0), (.int 0)] ([] : List Int32) T18.heap n0 zs33 f53 qC g24 g25 g26 fc42 g22 g23 ge3 ge30 ne29 ft41 (by simp only [List.length_append, List.length_cons, List.length_nil]; omega) (by decide)) hZ (H 94 rfl) (H 7 rfl) (by decide) (by decide)) qa54 qc54 (g := (own_top pre50)) rfl (by rw [hml]; rfl) (Steps.refl _) (argsL := [(.int 37)]) (rest := []) (lenOf pd_18 rfl) rfl (by show 2 * 0 + _ ≤ _; exact Nat.le_of_eq rfl) (hb hby d1_122) (fun _ _ => ⟨rfl, rfl, (by decide : 2 + 1 ≤ _), (by decide : 7 + 18 ≤ _)⟩)
   dsimp only [Pt.U, Pt.locs, Pt.cells, Pt.slots] at X54 l54 y54 z54 st54 hQ54
   subst l54 y54 z54
   obtain ⟨vb55, kb56, z257, vs258, rfl, Nq54, K54, g59, g60, g61, g62, g63, g64, g65, g66, g67, g68⟩ := hQ54
   have N54 := Fr.app N18 Nq54
   have zs69 : n0 ≤ T54.heap.size := Nat.le_trans zs33 K54.1
   have kc70 : Keep h0 T54.heap [] := kc34.trans K54 (allS (Or.inr sz5) (allS (Or.inr sz32) all0))
   have kc71 : Keep T18.heap T54.heap [b1, b19] := kjj48.trans K54 (allS (Or.inl (List.mem_of_getElem? (i := 0) rfl)) (allS (Or.inl (List.mem_of_getElem? (i := 1) rfl)) all0))
   have ch72 : CHr Z own_EL s.vm h0 s.vm T54.heap := ch35.trans (CHr.keep K54 (allS sf36 (allS sf37 all0)) ch35.1)
   have sf73 : Safe Z own_EL s.vm T54.heap b1 := Safe.keep K54 (allS sf36 (allS sf37 all0)) ch35.1 sf36
   have sf74 : Safe Z own_EL s.vm T54.heap b19 := Safe.keep K54 (allS sf36 (allS sf37 all0)) ch35.1 sf37
   have ne75 : a1 ≠ vb55 := by
    rcases g59 with q | q
    ·rw [q]; exact ne28
    ·exact Nat.ne_of_lt (Nat.lt_of_lt_of_le lt51 q)
   have ne76 : b1 ≠ vb55 := by
    rcases g59 with q | q
    ·rw [q]; exact ne29
    ·exact Nat.ne_of_lt (Nat.lt_of_lt_of_le lt52 q)
   have sz77 : h0.size ≤ vb55 := by
    rcases g59 with q | q
    ·rw [q]; exact sz32
    ·exact Nat.le_trans kc34.1 q
   have sd78 : vb55 ∈ [b1, b19] ∨ T18.heap.size ≤ vb55 := by
    rcases g59 with q | q
    ·rw [q]; exact Or.inl (List.mem_of_getElem? (i := 1) rfl)
    ·exact Or.inr (Nat.le_trans kjj48.1 q)
   have sf79 : Safe Z own_EL s.vm T54.heap vb55 := by
    rcases g59 with q | q
    ·rw [q]; exact sf74
    ·exact Safe.keep K54 (allS sf36 (allS sf37 all0)) ch35.1 (Safe.new q)
   have pre80 : own_Go p e below S0 (T54.setTop (mkF m 125 #[vR a1, vR b1, vR a1, vI 3, vI 0, vI u0, vI (own_cb u0)] [(.ref b1)])) := by
    intro t kt
    refine pre50 t ?_
    refine st54.trans ?_
    show Steps p.tables e below (T54.setTop (mkF m 125 #[vR a1, vR b1, vR a1, vI 3, vI 0, vI u0, vI (own_cb u0)] [(.ref b1)])) _
    exact kt
   have f81 : Exa Z T54.heap b19 "[B" := (g22.keep K54)
   obtain ⟨b82, T82, h82, k82, v82, kv82, X82, e82, E82, hS82, hk82, hZ, hown, xE82, xC82, xF82, xV82, -, -, cr82, L82, hne82, st82⟩ := ldcCH (s := s) (vm0 := s.vm) X54 hx hZ hown (H 109 rfl) (own_strAtoms a0 Z hw) rfl (own_since s 0) (Nat.zero_le _) (own_EW a0 Z hw) (List.mem_of_getElem? (i := 0) rfl) ch72.1 (vs := [(.int 48), (.int 49), (.int 50), (.int 51), (.int 52), (.int 53), (.int 54), (.int 55), (.int 56), (.int 57), (.int 65), (.int 66), (.int 67), (.int 68), (.int 69), (.int 70)]) (z := 16) own_ht0 (by decide) (by decide) (g := (own_top pre80)) rfl (hb hby d1_125) (n := 64) (by decide +kernel) (by decide) (by decide) (by decide)
   have zs83 : n0 ≤ h82.size := Nat.le_trans zs69 E82.1
   have kc84 : Keep h0 h82 [] := kc70.ext E82
   have kc85 : Keep T18.heap h82 [b1, b19] := kc71.ext E82
   have ch86 : CHr Z own_EL s.vm h0 T82.vm h82 := ch72.trans (cr82)
   have sf87 : Safe Z own_EL T82.vm h82 b1 := cr82.safe g65.lt sf73
   have sf88 : Safe Z own_EL T82.vm h82 b19 := cr82.safe f81.lt sf74
   have sf89 : Safe Z own_EL T82.vm h82 vb55 := cr82.safe g62.lt sf79
   have ne90 : b1 ≠ b82 := (hne82 _ sf87).1
   have ne91 : b1 ≠ v82 := (hne82 _ sf87).2
   have ne92 : b19 ≠ b82 := (hne82 _ sf88).1
   have ne93 : b19 ≠ v82 := (hne82 _ sf88).2
   have ne94 : vb55 ≠ b82 := (hne82 _ sf89).1
   have ne95 : vb55 ≠ v82 := (hne82 _ sf89).2
   have pre96 : own_Go p e below S0 (T82.setTop (mkF m 131 #[vR a1, vR b1, vR a1, vI 3, vI 0, vI u0, vI (own_cb u0)] [(.int ((own_cb u0) >>> ((4 : Int32) &&& 31))), (.ref b82), (.ref b1)])) := by
    intro t kt
    refine pre80 t ?_
    refine st82 _ ?_
    refine XS.iload X82.here hx rfl (hb hby d1_127) rfl ?_
    refine XS.iconst X82.here hx rfl (hb hby d1_129) ?_
    refine XS.ishr X82.here hx rfl (hb hby d1_130) rfl ?_
    exact kt
   have pre97 : own_Go p e below S0 (T82.setTop (mkF m 131 #[vR a1, vR b1, vR a1, vI 3, vI 0, vI u0, vI (own_cb u0)] [(.int (own_hi u0)), (.ref b82), (.ref b1)])) := by
    intro t kt
    refine pre96 t ?_
    rw [(rfl : ((own_cb u0) >>> ((4 : Int32) &&& 31)) = (own_hi u0))]
    exact kt
   have f98 : Old Z n0 h82 := ((f53.keep K54 (allS ge3 (allS ge30 all0))).ext E82)
   obtain ⟨cq99, kq99, qa99, qb99, qc99⟩ := isOf hZ e82 xE82
   obtain ⟨_, _, ⟨T99, L99, k99, n99⟩, -, X99, ⟨Lc99, hQ99, l99, y99, z99⟩, st99⟩ := X82.virtualBack hx (y := own_m15) (z := own_m15) hown (mvT hZ (H 112 rfl)) (mvT hZ (H 113 rfl)) (notFace_of_selects (args := #[]) (mvT hZ (H 115 rfl))) (mvT hZ (H 115 rfl)) (mvT hZ (H 114 rfl)) (by decide) (backOf (W := 1) (rmchA l Z a0 hw [] b82 (own_hi u0) wC wF v82 kv82 (16 : Int32) [(.int 48), (.int 49), (.int 50), (.int 51), (.int 52), (.int 53), (.int 54), (.int 55), (.int 56), (.int 57), (.int 65), (.int 66), (.int 67), (.int 68), (.int 69), (.int 70)] (.int 0) (own_hexb (own_hi u0)) h82 n0 zs83 f98 qC qF xE82 xC82 xF82 xV82 (own_ix16 (own_hiR _)).1 (own_ix16 (own_hiR _)).2 (own_hexT (own_hiR _))) hZ (H 116 rfl) (H 21 rfl) (by decide) (by decide)) qa99 qc99 (g := (own_top pre97)) rfl (by rw [hml]; rfl) (Steps.refl _) (argsL := [(.int (own_hi u0))]) (rest := [(.ref b1)]) (lenOf pd_19 rfl) rfl (by show 2 * 0 + _ ≤ _; exact Nat.le_of_eq rfl) (hb hby d1_131) (fun _ _ => ⟨rfl, e82, (by decide : 5 + 0 ≤ _), (by decide : 93 + 0 ≤ _)⟩)
   dsimp only [Pt.U, Pt.locs, Pt.cells, Pt.slots] at X99 l99 y99 z99 st99 hQ99
   subst l99 y99 z99
   obtain ⟨rfl, Nq99, eq99⟩ := hQ99
   have N99 := Fr.app N54 Nq99
   have pre100 : own_Go p e below S0 (T99.setTop (mkF m 134 #[vR a1, vR b1, vR a1, vI 3, vI 0, vI u0, vI (own_cb u0)] [(.int (own_lc (own_hexb (own_hi u0)))), (.ref b1)])) := by
    intro t kt
    refine pre97 t ?_
    refine st99.trans ?_
    show Steps p.tables e below (T99.setTop (mkF m 134 #[vR a1, vR b1, vR a1, vI 3, vI 0, vI u0, vI (own_cb u0)] [(.int (own_lc (own_hexb (own_hi u0)))), (.ref b1)])) _
    exact kt
   have f102 : Arv Z h82 a1 k1 .byte (3 : Int32) [(.int u0), (.int u1), (.int u2)] (.int 0) := ((f39.keep K54 (ninS ne2 (ninS ne28 nin0))).ext E82)
   have lt101 : a1 < h82.size := f102.lt
   have f104 : Exa Z h82 b1 "java/lang/StringBuilder" := (g65.ext E82)
   have lt103 : b1 < h82.size := f104.lt
   have f106 : Exa Z h82 b19 "[B" := (f81.ext E82)
   have lt105 : b19 < h82.size := f106.lt
   have lt107 : b82 < h82.size := xE82.lt
   have lt108 : v82 < h82.size := xV82.lt
   have f109 : Fld Z h82 b1 "java/lang/AbstractStringBuilder" "value" "[B" (.ref vb55) := (g66.ext E82)
   have f110 : Fld Z h82 b1 "java/lang/AbstractStringBuilder" "coder" "B" (.int 0) := (g67.ext E82)
   have f111 : Fld Z h82 b1 "java/lang/AbstractStringBuilder" "count" "I" (.int (own_len (([] : List Int32) ++ [(37 : Int32)]))) := (g68.ext E82)
   have f112 : Exa Z h82 vb55 "[B" := (g62.ext E82)
   have f113 : Arv Z h82 vb55 kb56 .byte z257 vs258 (.int 0) := (g63.ext E82)
   obtain ⟨cq114, kq114, qa114, qb114, qc114⟩ := isOf hZ eq99 f104
   obtain ⟨_, _, ⟨T114, L114, k114, n114⟩, -, X114, ⟨Lc114, hQ114, l114, y114, z114⟩, st114⟩ := X99.virtualBack hx (y := own_m21) (z := own_m21) hown (mvT hZ (H 90 rfl)) (mvT hZ (H 91 rfl)) (notFace_of_selects (args := #[]) (mvT hZ (H 93 rfl))) (mvT hZ (H 93 rfl)) (mvT hZ (H 92 rfl)) (by decide) (backOf (W := 0) (rmsaA3 l Z a0 hw [] b1 (own_lc (own_hexb (own_hi u0))) wC vb55 kb56 z257 vs258 (([] : List Int32) ++ [(37 : Int32)]) h82 n0 zs83 f98 qC f104 f109 f110 f111 f112 f113 ge3 g60 g61 g64 (by simp only [List.length_append, List.length_cons, List.length_nil]; omega) (own_canR (own_lcR _).2)) hZ (H 94 rfl) (H 7 rfl) (by decide) (by decide)) qa114 qc114 (g := (own_top pre100)) rfl (by rw [hml]; rfl) (Steps.refl _) (argsL := [(.int (own_lc (own_hexb (own_hi u0))))]) (rest := []) (lenOf pd_18 rfl) rfl (by show 2 * 0 + _ ≤ _; exact Nat.le_of_eq rfl) (hb hby d1_134) (fun _ _ => ⟨rfl, eq99, (by decide : 5 + 1 ≤ _), (by decide : 93 + 18 ≤ _)⟩)
   dsimp only [Pt.U, Pt.locs, Pt.cells, Pt.slots] at X114 l114 y114 z114 st114 hQ114
   subst l114 y114 z114
   obtain ⟨vb115, kb116, z2117, vs2118, rfl, Nq114, K114, g119, g120, g121, g122, g123, g124, g125, g126, g127, g128⟩ := hQ114
   have N114 := Fr.app N99 Nq114
   have zs129 : n0 ≤ T114.heap.size := Nat.le_trans zs83 K114.1
   have kc130 : Keep h0 T114.heap [] := kc84.trans K114 (allS (Or.inr sz5) (allS (Or.inr sz77) all0))
   have kc131 : Keep T18.heap T114.heap [b1, b19] := kc85.trans K114 (allS (Or.inl (List.mem_of_getElem? (i := 0) rfl)) (allS sd78 all0))
   have hk132 : _ ≤ T114.heap.size := Nat.le_trans hk82 K114.1
   have ch133 : CHr Z own_EL s.vm h0 T82.vm T114.heap := ch86.trans (CHr.keep K114 (allS sf87 (allS sf89 all0)) ch86.1)
   have sf134 : Safe Z own_EL T82.vm T114.heap b1 := Safe.keep K114 (allS sf87 (allS sf89 all0)) ch86.1 sf87
   have sf135 : Safe Z own_EL T82.vm T114.heap b19 := Safe.keep K114 (allS sf87 (allS sf89 all0)) ch86.1 sf88
   have sf136 : Safe Z own_EL T82.vm T114.heap vb55 := Safe.keep K114 (allS sf87 (allS sf89 all0)) ch86.1 sf89
   have ne137 : a1 ≠ vb115 := by
    rcases g119 with q | q
    ·rw [q]; exact ne75
    ·exact Nat.ne_of_lt (Nat.lt_of_lt_of_le lt101 q)
   have ne138 : b1 ≠ vb115 := by
    rcases g119 with q | q
    ·rw [q]; exact g61
    ·exact Nat.ne_of_lt (Nat.lt_of_lt_of_le lt103 q)
   have ne139 : b82 ≠ vb115 := by
    rcases g119 with q | q
    ·rw [q]; exact (Ne.symm ne94)
    ·exact Nat.ne_of_lt (Nat.lt_of_lt_of_le lt107 q)
   have ne140 : v82 ≠ vb115 := by
    rcases g119 with q | q
    ·rw [q]; exact (Ne.symm ne95)
    ·exact Nat.ne_of_lt (Nat.lt_of_lt_of_le lt108 q)
   have sz141 : h0.size ≤ vb115 := by
    rcases g119 with q | q
    ·rw [q]; exact sz77
    ·exact Nat.le_trans kc84.1 q
   have sd142 : vb115 ∈ [b1, b19] ∨ T18.heap.size ≤ vb115 := by
    rcases g119 with q | q
    ·rw [q]; exact sd78
    ·exact Or.inr (Nat.le_trans kc85.1 q)
   have sf143 : Safe Z own_EL T82.vm T114.heap vb115 := by
    rcases g119 with q | q
    ·rw [q]; exact sf136
    ·exact Safe.keep K114 (allS sf87 (allS sf89 all0)) ch86.1 (Safe.new q)
   have pre144 : own_Go p e below S0 (T114.setTop (mkF m 137 #[vR a1, vR b1, vR a1, vI 3, vI 0, vI u0, vI (own_cb u0)] [(.ref b1)])) := by
    intro t kt
    refine pre100 t ?_
    refine st114.trans ?_
    show Steps p.tables e below (T114.setTop (mkF m 137 #[vR a1, vR b1, vR a1, vI 3, vI 0, vI u0, vI (own_cb u0)] [(.ref b1)])) _
    exact kt
   have pre145 : own_Go p e below S0 (T114.setTop (mkF m 144 #[vR a1, vR b1, vR a1, vI 3, vI 0, vI u0, vI (own_cb u0)] [(.int ((own_cb u0) &&& (15 : Int32))), (.ref b82), (.ref b1)])) := by
    intro t kt
    refine pre144 t ?_
    refine ldcAgain (s := s) (vm0 := T82.vm) X114 hx hZ hown (H 109 rfl) L82 (g := (own_top pre144)) rfl (hb hby d1_137) _ ?_
    refine XS.iload X114.here hx rfl (hb hby d1_139) rfl ?_
    refine XS.bipush X114.here hx rfl (hb hby d1_141) ?_
    refine XS.iand X114.here hx rfl (hb hby d1_143) rfl ?_
    exact kt
   have pre146 : own_Go p e below S0 (T114.setTop (mkF m 144 #[vR a1, vR b1, vR a1, vI 3, vI 0, vI u0, vI (own_cb u0)] [(.int (own_lo u0)), (.ref b82), (.ref b1)])) := by
    intro t kt
    refine pre145 t ?_
    rw [(rfl : ((own_cb u0) &&& (15 : Int32)) = (own_lo u0))]
    exact kt
   have f147 : Old Z n0 T114.heap := (f98.keep K114 (allS ge3 (allS g60 all0)))
   have f148 : Exa Z T114.heap b82 "java/lang/String" := (xE82.keep K114)
   have f149 : Fld Z T114.heap b82 "java/lang/String" "coder" "B" (.int 0) := (xC82.keep K114 (ninS (Ne.symm ne90) (ninS (Ne.symm ne94) nin0)))
   have f150 : Fld Z T114.heap b82 "java/lang/String" "value" "[B" (.ref v82) := (xF82.keep K114 (ninS (Ne.symm ne90) (ninS (Ne.symm ne94) nin0)))
   have f151 : Arv Z T114.heap v82 kv82 .byte (16 : Int32) [(.int 48), (.int 49), (.int 50), (.int 51), (.int 52), (.int 53), (.int 54), (.int 55), (.int 56), (.int 57), (.int 65), (.int 66), (.int 67), (.int 68), (.int 69), (.int 70)] (.int 0) := (xV82.keep K114 (ninS (Ne.symm ne91) (ninS (Ne.symm ne95) nin0)))
   obtain ⟨cq152, kq152, qa152, qb152, qc152⟩ := isOf hZ rfl f148
   obtain ⟨_, _, ⟨T152, L152, k152, n152⟩, -, X152, ⟨Lc152, hQ152, l152, y152, z152⟩, st152⟩ := X114.virtualBack hx (y := own_m15) (z := own_m15) hown (mvT hZ (H 112 rfl)) (mvT hZ (H 113 rfl)) (notFace_of_selects (args := #[]) (mvT hZ (H 115 rfl))) (mvT hZ (H 115 rfl)) (mvT hZ (H 114 rfl)) (by decide) (backOf (W := 1) (rmchA l Z a0 hw [] b82 (own_lo u0) wC wF v82 kv82 (16 : Int32) [(.int 48), (.int 49), (.int 50), (.int 51), (.int 52), (.int 53), (.int 54), (.int 55), (.int 56), (.int 57), (.int 65), (.int 66), (.int 67), (.int 68), (.int 69), (.int 70)] (.int 0) (own_hexb (own_lo u0)) T114.heap n0 zs129 f147 qC qF f148 f149 f150 f151 (own_ix16 (own_loR _)).1 (own_ix16 (own_loR _)).2 (own_hexT (own_loR _))) hZ (H 116 rfl) (H 21 rfl) (by decide) (by decide)) qa152 qc152 (g := (own_top pre146)) rfl (by rw [hml]; rfl) (Steps.refl _) (argsL := [(.int (own_lo u0))]) (rest := [(.ref b1)]) (lenOf pd_19 rfl) rfl (by show 2 * 0 + _ ≤ _; exact Nat.le_of_eq rfl) (hb hby d1_144) (fun _ _ => ⟨rfl, rfl, (by decide : 6 + 0 ≤ _), (by decide : 111 + 0 ≤ _)⟩)
   dsimp only [Pt.U, Pt.locs, Pt.cells, Pt.slots] at X152 l152 y152 z152 st152 hQ152
   subst l152 y152 z152
   obtain ⟨rfl, Nq152, eq152⟩ := hQ152
   have N152 := Fr.app N114 Nq152
   have pre153 : own_Go p e below S0 (T152.setTop (mkF m 147 #[vR a1, vR b1, vR a1, vI 3, vI 0, vI u0, vI (own_cb u0)] [(.int (own_lc (own_hexb (own_lo u0)))), (.ref b1)])) := by
    intro t kt
    refine pre146 t ?_
    refine st152.trans ?_
    show Steps p.tables e below (T152.setTop (mkF m 147 #[vR a1, vR b1, vR a1, vI 3, vI 0, vI u0, vI (own_cb u0)] [(.int (own_lc (own_hexb (own_lo u0)))), (.ref b1)])) _
    exact kt
   have f155 : Arv Z T114.heap a1 k1 .byte (3 : Int32) [(.int u0), (.int u1), (.int u2)] (.int 0) := (f102.keep K114 (ninS ne2 (ninS ne75 nin0)))
   have lt154 : a1 < T114.heap.size := f155.lt
   have lt156 : b1 < T114.heap.size := g125.lt
   have f158 : Exa Z T114.heap b19 "[B" := (f106.keep K114)
   have lt157 : b19 < T114.heap.size := f158.lt
   have f160 : Exa Z T114.heap vb55 "[B" := (f112.keep K114)
   have lt159 : vb55 < T114.heap.size := f160.lt
   have lt161 : b82 < T114.heap.size := f148.lt
   have lt162 : v82 < T114.heap.size := f151.lt
   obtain ⟨cq163, kq163, qa163, qb163, qc163⟩ := isOf hZ eq152 g125
   obtain ⟨_, _, ⟨T163, L163, k163, n163⟩, -, X163, ⟨Lc163, hQ163, l163, y163, z163⟩, st163⟩ := X152.virtualBack hx (y := own_m21) (z := own_m21) hown (mvT hZ (H 90 rfl)) (mvT hZ (H 91 rfl)) (notFace_of_selects (args := #[]) (mvT hZ (H 93 rfl))) (mvT hZ (H 93 rfl)) (mvT hZ (H 92 rfl)) (by decide) (backOf (W := 0) (rmsaA3 l Z a0 hw [] b1 (own_lc (own_hexb (own_lo u0))) wC vb115 kb116 z2117 vs2118 ((([] : List Int32) ++ [(37 : Int32)]) ++ [(own_lc (own_hexb (own_hi u0)))]) T114.heap n0 zs129 f147 qC g125 g126 g127 g128 g122 g123 ge3 g120 g121 g124 (by simp only [List.length_append, List.length_cons, List.length_nil]; omega) (own_canR (own_lcR _).2)) hZ (H 94 rfl) (H 7 rfl) (by decide) (by decide)) qa163 qc163 (g := (own_top pre153)) rfl (by rw [hml]; rfl) (Steps.refl _) (argsL := [(.int (own_lc (own_hexb (own_lo u0))))]) (rest := []) (lenOf pd_18 rfl) rfl (by show 2 * 0 + _ ≤ _; exact Nat.le_of_eq rfl) (hb hby d1_147) (fun _ _ => ⟨rfl, eq152, (by decide : 6 + 1 ≤ _), (by decide : 111 + 18 ≤ _)⟩)
   dsimp only [Pt.U, Pt.locs, Pt.cells, Pt.slots] at X163 l163 y163 z163 st163 hQ163
   subst l163 y163 z163
   obtain ⟨vb164, kb165, z2166, vs2167, rfl, Nq163, K163, g168, g169, g170, g171, g172, g173, g174, g175, g176, g177⟩ := hQ163
   have N163 := Fr.app N152 Nq163
   have zs178 : n0 ≤ T163.heap.size := Nat.le_trans zs129 K163.1
   have kc179 : Keep h0 T163.heap [] := kc130.trans K163 (allS (Or.inr sz5) (allS (Or.inr sz141) all0))
   have kc180 : Keep T18.heap T163.heap [b1, b19] := kc131.trans K163 (allS (Or.inl (List.mem_of_getElem? (i := 0) rfl)) (allS sd142 all0))
   have hk181 : _ ≤ T163.heap.size := Nat.le_trans hk132 K163.1
   have ch182 : CHr Z own_EL s.vm h0 T82.vm T163.heap := ch133.trans (CHr.keep K163 (allS sf134 (allS sf143 all0)) ch133.1)
   have sf183 : Safe Z own_EL T82.vm T163.heap b1 := Safe.keep K163 (allS sf134 (allS sf143 all0)) ch133.1 sf134
   have sf184 : Safe Z own_EL T82.vm T163.heap b19 := Safe.keep K163 (allS sf134 (allS sf143 all0)) ch133.1 sf135
   have sf185 : Safe Z own_EL T82.vm T163.heap vb55 := Safe.keep K163 (allS sf134 (allS sf143 all0)) ch133.1 sf136
   have sf186 : Safe Z own_EL T82.vm T163.heap vb115 := Safe.keep K163 (allS sf134 (allS sf143 all0)) ch133.1 sf143
   have ne187 : a1 ≠ vb164 := by
    rcases g168 with q | q
    ·rw [q]; exact ne137
    ·exact Nat.ne_of_lt (Nat.lt_of_lt_of_le lt154 q)
   have ne188 : b1 ≠ vb164 := by
    rcases g168 with q | q
    ·rw [q]; exact g121
    ·exact Nat.ne_of_lt (Nat.lt_of_lt_of_le lt156 q)
   have ne189 : b82 ≠ vb164 := by
    rcases g168 with q | q
    ·rw [q]; exact ne139
    ·exact Nat.ne_of_lt (Nat.lt_of_lt_of_le lt161 q)
   have ne190 : v82 ≠ vb164 := by
    rcases g168 with q | q
    ·rw [q]; exact ne140
    ·exact Nat.ne_of_lt (Nat.lt_of_lt_of_le lt162 q)
   have sz191 : h0.size ≤ vb164 := by
    rcases g168 with q | q
    ·rw [q]; exact sz141
    ·exact Nat.le_trans kc130.1 q
   have sd192 : vb164 ∈ [b1, b19] ∨ T18.heap.size ≤ vb164 := by
    rcases g168 with q | q
    ·rw [q]; exact sd142
    ·exact Or.inr (Nat.le_trans kc131.1 q)
   have sf193 : Safe Z own_EL T82.vm T163.heap vb164 := by
    rcases g168 with q | q
    ·rw [q]; exact sf186
    ·exact Safe.keep K163 (allS sf134 (allS sf143 all0)) ch133.1 (Safe.new q)
   have pre194 : own_Go p e below S0 (T163.setTop (mkF m 151 #[vR a1, vR b1, vR a1, vI 3, vI 0, vI u0, vI (own_cb u0)] [])) := by
    intro t kt
    refine pre153 t ?_
    refine st163.trans ?_
    show Steps p.tables e below (T163.setTop (mkF m 150 #[vR a1, vR b1, vR a1, vI 3, vI 0, vI u0, vI (own_cb u0)] [(.ref b1)])) _
    refine XS.pop X163.here hx rfl (hb hby d1_150) rfl rfl ?_
    exact kt
   exact ⟨vb164, kb165, z2166, vs2167, T163, _, _, T82.vm, _, (Stand.mono X163 (by decide) (by decide)), N163, rfl, kc180, hS82, hk181, hZ, hown, ch182, sf183, sf193, ((show (((([] : List Int32) ++ [(37 : Int32)]) ++ [(own_lc (own_hexb (own_hi u0)))]) ++ [(own_lc (own_hexb (own_lo u0)))]) = (([] : List Int32) ++ (own_e1 u0)) from by rw [show own_e1 u0 = [37, own_lc (own_hexb (own_hi u0)), own_lc (own_hexb (own_lo u0))] from by rw [own_e1, if_pos hu47]] <;> simp) ▸ g173), g169, g170, g171, g172, g174, g175, g176, ((show (((([] : List Int32) ++ [(37 : Int32)]) ++ [(own_lc (own_hexb (own_hi u0)))]) ++ [(own_lc (own_hexb (own_lo u0)))]) = (([] : List Int32) ++ (own_e1 u0)) from by rw [show own_e1 u0 = [37, own_lc (own_hexb (own_hi u0)), own_lc (own_hexb (own_lo u0))] from by rw [own_e1, if_pos hu47]] <;> simp) ▸ g177), sz191, ne187, pre194⟩
  ·have pre195 : own_Go p e below S0 (T18.setTop (mkF m 109 #[vR a1, vR b1, vR a1, vI 3, vI 0, vI u0, vI (own_cb u0)] [])) := fun t k => pre46 t ((own_test X18 hx hby _ _ _ _ _ _ _).2 hu47 t k)
   have pre196 : own_Go p e below S0 (T18.setTop (mkF m 112 #[vR a1, vR b1, vR a1, vI 3, vI 0, vI u0, vI (own_cb u0)] [(.int (own_cb u0)), (.ref b1)])) := by
    intro t kt
    refine pre195 t ?_
    refine XS.aloadN X18.here hx rfl (hb hby d1_109) rfl rfl ?_
    refine XS.iload X18.here hx rfl (hb hby d1_110) rfl ?_
    exact kt
   have lt197 : a1 < T18.heap.size := f39.lt
   have lt198 : b1 < T18.heap.size := g24.lt
   have f199 : Old Z n0 T18.heap := (f17.keep K18 (allS ge3 all0))
   obtain ⟨cq200, kq200, qa200, qb200, qc200⟩ := isOf hZ rfl g24
   obtain ⟨_, _, ⟨T200, L200, k200, n200⟩, -, X200, ⟨Lc200, hQ200, l200, y200, z200⟩, st200⟩ := X18.virtualBack hx (y := own_m21) (z := own_m21) hown (mvT hZ (H 90 rfl)) (mvT hZ (H 91 rfl)) (notFace_of_selects (args := #[]) (mvT hZ (H 93 rfl))) (mvT hZ (H 93 rfl)) (mvT hZ (H 92 rfl)) (by decide) (backOf (W := 0) (rmsaA3 l Z a0 hw [] b1 (own_cb u0) wC b19 kb20 (3 : Int32) [(.int 0), (.int 0), (.int 0)] ([] : List Int32) T18.heap n0 zs33 f199 qC g24 g25 g26 fc42 g22 g23 ge3 ge30 ne29 ft41 (by simp only [List.length_append, List.length_cons, List.length_nil]; omega) (own_canR (own_cbR _).2)) hZ (H 94 rfl) (H 7 rfl) (by decide) (by decide)) qa200 qc200 (g := (own_top pre196)) rfl (by rw [hml]; rfl) (Steps.refl _) (argsL := [(.int (own_cb u0))]) (rest := []) (lenOf pd_18 rfl) rfl (by show 2 * 0 + _ ≤ _; exact Nat.le_of_eq rfl) (hb hby d1_112) (fun _ _ => ⟨rfl, rfl, (by decide : 2 + 1 ≤ _), (by decide : 7 + 18 ≤ _)⟩)
   dsimp only [Pt.U, Pt.locs, Pt.cells, Pt.slots] at X200 l200 y200 z200 st200 hQ200
   subst l200 y200 z200
   obtain ⟨vb201, kb202, z2203, vs2204, rfl, Nq200, K200, g205, g206, g207, g208, g209, g210, g211, g212, g213, g214⟩ := hQ200
   have N200 := Fr.app N18 Nq200
   have zs215 : n0 ≤ T200.heap.size := Nat.le_trans zs33 K200.1
   have kc216 : Keep h0 T200.heap [] := kc34.trans K200 (allS (Or.inr sz5) (allS (Or.inr sz32) all0))
   have kc217 : Keep T18.heap T200.heap [b1, b19] := kjj48.trans K200 (allS (Or.inl (List.mem_of_getElem? (i := 0) rfl)) (allS (Or.inl (List.mem_of_getElem? (i := 1) rfl)) all0))
   have ch218 : CHr Z own_EL s.vm h0 s.vm T200.heap := ch35.trans (CHr.keep K200 (allS sf36 (allS sf37 all0)) ch35.1)
   have sf219 : Safe Z own_EL s.vm T200.heap b1 := Safe.keep K200 (allS sf36 (allS sf37 all0)) ch35.1 sf36
   have sf220 : Safe Z own_EL s.vm T200.heap b19 := Safe.keep K200 (allS sf36 (allS sf37 all0)) ch35.1 sf37
   have ne221 : a1 ≠ vb201 := by
    rcases g205 with q | q
    ·rw [q]; exact ne28
    ·exact Nat.ne_of_lt (Nat.lt_of_lt_of_le lt197 q)
   have ne222 : b1 ≠ vb201 := by
    rcases g205 with q | q
    ·rw [q]; exact ne29
    ·exact Nat.ne_of_lt (Nat.lt_of_lt_of_le lt198 q)
   have sz223 : h0.size ≤ vb201 := by
    rcases g205 with q | q
    ·rw [q]; exact sz32
    ·exact Nat.le_trans kc34.1 q
   have sd224 : vb201 ∈ [b1, b19] ∨ T18.heap.size ≤ vb201 := by
    rcases g205 with q | q
    ·rw [q]; exact Or.inl (List.mem_of_getElem? (i := 1) rfl)
    ·exact Or.inr (Nat.le_trans kjj48.1 q)
   have sf225 : Safe Z own_EL s.vm T200.heap vb201 := by
    rcases g205 with q | q
    ·rw [q]; exact sf220
    ·exact Safe.keep K200 (allS sf36 (allS sf37 all0)) ch35.1 (Safe.new q)
   have pre226 : own_Go p e below S0 (T200.setTop (mkF m 151 #[vR a1, vR b1, vR a1, vI 3, vI 0, vI u0, vI (own_cb u0)] [])) := by
    intro t kt
    refine pre196 t ?_
    refine st200.trans ?_
    show Steps p.tables e below (T200.setTop (mkF m 115 #[vR a1, vR b1, vR a1, vI 3, vI 0, vI u0, vI (own_cb u0)] [(.ref b1)])) _
    refine XS.pop X200.here hx rfl (hb hby d1_115) rfl rfl ?_
    refine XS.goto X200.here hx rfl (pc0 := 116) (pc' := 151) rfl (hb hby d1_116) (by decide) (by decide) ?_
    exact kt
   exact ⟨vb201, kb202, z2203, vs2204, T200, _, _, s.vm, _, (Stand.mono X200 (by decide) (by decide)), N200, rfl, kc217, (own_since s 0), (Nat.zero_le _), hZ, hown, ch218, sf219, sf225, ((show (([] : List Int32) ++ [(own_cb u0)]) = (([] : List Int32) ++ (own_e1 u0)) from by rw [show own_e1 u0 = [own_cb u0] from by rw [own_e1, if_neg hu47]] <;> simp) ▸ g210), g206, g207, g208, g209, g211, g212, g213, ((show (([] : List Int32) ++ [(own_cb u0)]) = (([] : List Int32) ++ (own_e1 u0)) from by rw [show own_e1 u0 = [own_cb u0] from by rw [own_e1, if_neg hu47]] <;> simp) ▸ g214), sz223, ne221, pre226⟩
 have zs238 : n0 ≤ hj48.size := Nat.le_trans zs33 Kj48.1
 have kc239 : Keep h0 hj48 [] := kc34.trans Kj48 (allS (Or.inr sz5) (allS (Or.inr sz32) all0))
 have pre240 : own_Go p e below S0 (Tj48.setTop (mkF m 27 #[vR a1, vR b1, vR a1, vI 3, vI 1, vI u0, vI (own_cb u0)] [(.int 1), (.ref a1)])) := by
  intro t kt
  refine prej48 t ?_
  refine XS.iinc Xj48.here hx rfl (hb hby d1_151) rfl (l' := #[vR a1, vR b1, vR a1, vI 3, vI 1, vI u0, vI (own_cb u0)]) rfl ?_
  refine XS.goto Xj48.here hx rfl (pc0 := 154) (pc' := 18) rfl (hb hby d1_154) (by decide) (by decide) ?_
  refine XS.iload Xj48.here hx rfl (hb hby d1_18) rfl ?_
  refine XS.iloadN Xj48.here hx rfl (hb hby d1_20) rfl ?_
  refine XS.icmpNo Xj48.here hx rfl (hb hby d1_21) rfl (tlt (by decide : (1 : Int32) < (3 : Int32))).2.1 ?_
  refine XS.aloadN Xj48.here hx rfl (hb hby d1_24) rfl rfl ?_
  refine XS.iload Xj48.here hx rfl (hb hby d1_25) rfl ?_
  exact kt
 have f241 : Arv Z hj48 a1 k1 .byte (3 : Int32) [(.int u0), (.int u1), (.int u2)] (.int 0) := (f39.keep Kj48 (ninS ne2 (ninS ne28 nin0)))
 obtain ⟨cl242, Ar242, -, Sz242, -, Hs242, -⟩ := id f241
 have hin242 : ¬ ((1 : Int32) < 0 ∨ cl242.slots.size ≤ ((1 : Int32)).toNatClampNeg) := inb_of Sz242 ⟨by decide, by decide⟩
 have pre243 : own_Go p e below S0 (Tj48.setTop (mkF m 39 #[vR a1, vR b1, vR a1, vI 3, vI 1, vI u1, vI ((u1 &&& (255 : Int32)).toUInt32.toUInt16.toUInt32.toInt32)] [])) := by
  intro t kt
  refine pre240 t ?_
  refine Xj48.baloadBytes hx (j := (1 : Int32)) (v := (.int u1)) (by rw [ej48]; exact Ar242.1) (State.isArrayOf_alike hZ.alike Ar242.2.1) Ar242.2.2 hin242 (Hs242.at hin242 rfl) (g := (mkF m 27 #[vR a1, vR b1, vR a1, vI 3, vI 1, vI u0, vI (own_cb u0)] [(.int 1), (.ref a1)])) rfl rfl (hb hby d1_27) _ ?_
  refine XS.istore Xj48.here hx rfl (hb hby d1_28) rfl (l' := #[vR a1, vR b1, vR a1, vI 3, vI 1, vI u1, vI (own_cb u0)]) rfl ?_
  refine XS.iload Xj48.here hx rfl (hb hby d1_30) rfl ?_
  refine XS.sipush Xj48.here hx rfl (hb hby d1_32) ?_
  refine XS.iand Xj48.here hx rfl (hb hby d1_35) rfl ?_
  refine XS.i2c Xj48.here hx rfl (hb hby d1_36) rfl ?_
  refine XS.istore Xj48.here hx rfl (hb hby d1_37) rfl (l' := #[vR a1, vR b1, vR a1, vI 3, vI 1, vI u1, vI ((u1 &&& (255 : Int32)).toUInt32.toUInt16.toUInt32.toInt32)]) rfl ?_
  exact kt
 have pre244 : own_Go p e below S0 (Tj48.setTop (mkF m 39 #[vR a1, vR b1, vR a1, vI 3, vI 1, vI u1, vI (own_cb u1)] [])) := by
  intro t kt
  refine pre243 t ?_
  rw [(rfl : ((u1 &&& (255 : Int32)).toUInt32.toUInt16.toUInt32.toInt32) = (own_cb u1))]
  exact kt
 obtain ⟨va2, kv2, zv2, lv2, Tj246, lj246, hj246, vmj246, knj246, Xj246, Nj246, ej246, Kj246, hSj246, hkj246, hZ, hown, chj246, sfj2460, sfj2461, pj435, qj436, qj437, qj438, qj439, qj440, qj441, qj442, qj443, qj444, qj445, prej246⟩ : ∃ (va2 : Addr) (kv2 : ClassId) (zv2 : Int32) (lv2 : List Value) (Tj246 : State) (lj246 : List Loc) (hj246 : Heap) (vmj246 : Vm) (knj246 : Nat), Stand p l e (own_r 7 19 386 117) (s.setVm vmj246) m #[(.ref a1)] below meth c Tj246 lj246 12 251 ∧ Fr n0 lj246 ∧ Tj246.heap = hj246 ∧ Keep hj48 hj246 [b1, va1] ∧ s.Since vmj246 knj246 ∧ knj246 ≤ hj246.size ∧ Z.Warmed39 (s.setVm vmj246).vm ∧ (s.setVm vmj246).vm.findClass "com/example/permgrid/permgrid/PercentEncoding" = some m.cls ∧ CHr Z own_EL s.vm h0 vmj246 hj246 ∧ Safe Z own_EL vmj246 hj246 b1 ∧ Safe Z own_EL vmj246 hj246 va2 ∧ own_Fit3 zv2 lv2 ((([] : List Int32) ++ (own_e1 u0)) ++ (own_e1 u1)) ∧ n0 ≤ va2 ∧ b1 ≠ va2 ∧ Exa Z hj246 va2 "[B" ∧ Arv Z hj246 va2 kv2 .byte zv2 lv2 (.int 0) ∧ Exa Z hj246 b1 "java/lang/StringBuilder" ∧ Fld Z hj246 b1 "java/lang/AbstractStringBuilder" "value" "[B" (.ref va2) ∧ Fld Z hj246 b1 "java/lang/AbstractStringBuilder" "coder" "B" (.int 0) ∧ Fld Z hj246 b1 "java/lang/AbstractStringBuilder" "count" "I" (.int (own_len ((([] : List Int32) ++ (own_e1 u0)) ++ (own_e1 u1)))) ∧ (h0.size ≤ va2) ∧ a1 ≠ va2 ∧ own_Go p e below S0 (Tj246.setTop (mkF m 151 #[vR a1, vR b1, vR a1, vI 3, vI 1, vI u1, vI (own_cb u1)] [])) := by
  have kjj246 : Keep hj48 hj48 [b1, va1] := Keep.refl _ _
  by_cases hu245 : (own_unr (own_cb u1)) = (0 : Int32)
  ·have pre247 : own_Go p e below S0 (Tj48.setTop (mkF m 119 #[vR a1, vR b1, vR a1, vI 3, vI 1, vI u1, vI (own_cb u1)] [])) := fun t k => pre244 t ((own_test Xj48 hx hby _ _ _ _ _ _ _).1 hu245 t k)
   have pre248 : own_Go p e below S0 (Tj48.setTop (mkF m 122 #[vR a1, vR b1, vR a1, vI 3, vI 1, vI u1, vI (own_cb u1)] [(.int 37), (.ref b1)])) := by
    intro t kt
    refine pre247 t ?_
    refine XS.aloadN Xj48.here hx rfl (hb hby d1_119) rfl rfl ?_
    refine XS.bipush Xj48.here hx rfl (hb hby d1_120) ?_
    exact kt
   have lt249 : a1 < hj48.size := f241.lt
   have lt250 : b1 < hj48.size := qj232.lt
   have f252 : Exa Z hj48 b19 "[B" := (g22.keep Kj48)
   have lt251 : b19 < hj48.size := f252.lt
   have f253 : Old Z n0 hj48 := ((f17.keep K18 (allS ge3 all0)).keep Kj48 (allS ge3 (allS ge30 all0)))
   obtain ⟨cq254, kq254, qa254, qb254, qc254⟩ := isOf hZ ej48 qj232
   obtain ⟨_, _, ⟨T254, L254, k254, n254⟩, -, X254, ⟨Lc254, hQ254, l254, y254, z254⟩, st254⟩ := Xj48.virtualBack hx (y := own_m21) (z := own_m21) hown (mvT hZ (H 90 rfl)) (mvT hZ (H 91 rfl)) (notFace_of_selects (args := #[]) (mvT hZ (H 93 rfl))) (mvT hZ (H 93 rfl)) (mvT hZ (H 92 rfl)) (by decide) (backOf (W := 0) (rmsaA3 l Z a0 hw [] b1 (37 : Int32) wC va1 kv1 zv1 lv1 (([] : List Int32) ++ (own_e1 u0)) hj48 n0 zs238 f253 qC qj232 qj233 qj234 qj235 qj230 qj231 ge3 qj228 qj229 pj227 (by have q0 := own_e1L u0; simp only [List.length_append, List.length_cons, List.length_nil]; omega) (by decide)) hZ (H 94 rfl) (H 7 rfl) (by decide) (by decide)) qa254 qc254 (g := (own_top pre248)) rfl (by rw [hml]; rfl) (Steps.refl _) (argsL := [(.int 37)]) (rest := []) (lenOf pd_18 rfl) rfl (by show 2 * 0 + _ ≤ _; exact Nat.le_of_eq rfl) (hb hby d1_122) (fun _ _ => ⟨rfl, ej48, (by decide : 7 + 1 ≤ _), (by decide : 129 + 18 ≤ _)⟩)
   dsimp only [Pt.U, Pt.locs, Pt.cells, Pt.slots] at X254 l254 y254 z254 st254 hQ254
   subst l254 y254 z254
   obtain ⟨vb255, kb256, z2257, vs2258, rfl, Nq254, K254, g259, g260, g261, g262, g263, g264, g265, g266, g267, g268⟩ := hQ254
   have N254 := Fr.app Nj48 Nq254
   have zs269 : n0 ≤ T254.heap.size := Nat.le_trans zs238 K254.1
   have kc270 : Keep h0 T254.heap [] := kc239.trans K254 (allS (Or.inr sz5) (allS (Or.inr qj236) all0))
   have kc271 : Keep hj48 T254.heap [b1, va1] := kjj246.trans K254 (allS (Or.inl (List.mem_of_getElem? (i := 0) rfl)) (allS (Or.inl (List.mem_of_getElem? (i := 1) rfl)) all0))
   have hk272 : _ ≤ T254.heap.size := Nat.le_trans hkj48 K254.1
   have ch273 : CHr Z own_EL s.vm h0 vmj48 T254.heap := chj48.trans (CHr.keep K254 (allS sfj480 (allS sfj481 all0)) chj48.1)
   have sf274 : Safe Z own_EL vmj48 T254.heap b1 := Safe.keep K254 (allS sfj480 (allS sfj481 all0)) chj48.1 sfj480
   have sf275 : Safe Z own_EL vmj48 T254.heap va1 := Safe.keep K254 (allS sfj480 (allS sfj481 all0)) chj48.1 sfj481
   have ne276 : a1 ≠ vb255 := by
    rcases g259 with q | q
    ·rw [q]; exact qj237
    ·exact Nat.ne_of_lt (Nat.lt_of_lt_of_le lt249 q)
   have ne277 : b1 ≠ vb255 := by
    rcases g259 with q | q
    ·rw [q]; exact qj229
    ·exact Nat.ne_of_lt (Nat.lt_of_lt_of_le lt250 q)
   have sz278 : h0.size ≤ vb255 := by
    rcases g259 with q | q
    ·rw [q]; exact qj236
    ·exact Nat.le_trans kc239.1 q
   have sd279 : vb255 ∈ [b1, va1] ∨ hj48.size ≤ vb255 := by
    rcases g259 with q | q
    ·rw [q]; exact Or.inl (List.mem_of_getElem? (i := 1) rfl)
    ·exact Or.inr (Nat.le_trans kjj246.1 q)
   have sf280 : Safe Z own_EL vmj48 T254.heap vb255 := by
    rcases g259 with q | q
    ·rw [q]; exact sf275
    ·exact Safe.keep K254 (allS sfj480 (allS sfj481 all0)) chj48.1 (Safe.new q)
   have pre281 : own_Go p e below S0 (T254.setTop (mkF m 125 #[vR a1, vR b1, vR a1, vI 3, vI 1, vI u1, vI (own_cb u1)] [(.ref b1)])) := by
    intro t kt
    refine pre248 t ?_
    refine st254.trans ?_
    show Steps p.tables e below (T254.setTop (mkF m 125 #[vR a1, vR b1, vR a1, vI 3, vI 1, vI u1, vI (own_cb u1)] [(.ref b1)])) _
    exact kt
   have f282 : Exa Z T254.heap va1 "[B" := (qj230.keep K254)
   obtain ⟨b283, T283, h283, k283, v283, kv283, X283, e283, E283, hS283, hk283, hZ, hown, xE283, xC283, xF283, xV283, -, -, cr283, L283, hne283, st283⟩ := ldcCH (s := s) (vm0 := vmj48) X254 hx hZ hown (H 109 rfl) (own_strAtoms a0 Z hw) rfl hSj48 hk272 (own_EW a0 Z hw) (List.mem_of_getElem? (i := 0) rfl) ch273.1 (vs := [(.int 48), (.int 49), (.int 50), (.int 51), (.int 52), (.int 53), (.int 54), (.int 55), (.int 56), (.int 57), (.int 65), (.int 66), (.int 67), (.int 68), (.int 69), (.int 70)]) (z := 16) own_ht0 (by decide) (by decide) (g := (own_top pre281)) rfl (hb hby d1_125) (n := 64) (by decide +kernel) (by decide) (by decide) (by decide)
   have zs284 : n0 ≤ h283.size := Nat.le_trans zs269 E283.1
   have kc285 : Keep h0 h283 [] := kc270.ext E283
   have kc286 : Keep hj48 h283 [b1, va1] := kc271.ext E283
   have ch287 : CHr Z own_EL s.vm h0 T283.vm h283 := ch273.trans (cr283)
   have sf288 : Safe Z own_EL T283.vm h283 b1 := cr283.safe g265.lt sf274
   have sf289 : Safe Z own_EL T283.vm h283 va1 := cr283.safe f282.lt sf275
   have sf290 : Safe Z own_EL T283.vm h283 vb255 := cr283.safe g262.lt sf280
   have ne291 : b1 ≠ b283 := (hne283 _ sf288).1
   have ne292 : b1 ≠ v283 := (hne283 _ sf288).2
   have ne293 : va1 ≠ b283 := (hne283 _ sf289).1
   have ne294 : va1 ≠ v283 := (hne283 _ sf289).2
   have ne295 : vb255 ≠ b283 := (hne283 _ sf290).1
   have ne296 : vb255 ≠ v283 := (hne283 _ sf290).2
   have pre297 : own_Go p e below S0 (T283.setTop (mkF m 131 #[vR a1, vR b1, vR a1, vI 3, vI 1, vI u1, vI (own_cb u1)] [(.int ((own_cb u1) >>> ((4 : Int32) &&& 31))), (.ref b283), (.ref b1)])) := by
    intro t kt
    refine pre281 t ?_
    refine st283 _ ?_
    refine XS.iload X283.here hx rfl (hb hby d1_127) rfl ?_
    refine XS.iconst X283.here hx rfl (hb hby d1_129) ?_
    refine XS.ishr X283.here hx rfl (hb hby d1_130) rfl ?_
    exact kt
   have pre298 : own_Go p e below S0 (T283.setTop (mkF m 131 #[vR a1, vR b1, vR a1, vI 3, vI 1, vI u1, vI (own_cb u1)] [(.int (own_hi u1)), (.ref b283), (.ref b1)])) := by
    intro t kt
    refine pre297 t ?_
    rw [(rfl : ((own_cb u1) >>> ((4 : Int32) &&& 31)) = (own_hi u1))]
    exact kt
   have f299 : Old Z n0 h283 := ((f253.keep K254 (allS ge3 (allS qj228 all0))).ext E283)
   obtain ⟨cq300, kq300, qa300, qb300, qc300⟩ := isOf hZ e283 xE283
   obtain ⟨_, _, ⟨T300, L300, k300, n300⟩, -, X300, ⟨Lc300, hQ300, l300, y300, z300⟩, st300⟩ := X283.virtualBack hx (y := own_m15) (z := own_m15) hown (mvT hZ (H 112 rfl)) (mvT hZ (H 113 rfl)) (notFace_of_selects (args := #[]) (mvT hZ (H 115 rfl))) (mvT hZ (H 115 rfl)) (mvT hZ (H 114 rfl)) (by decide) (backOf (W := 1) (rmchA l Z a0 hw [] b283 (own_hi u1) wC wF v283 kv283 (16 : Int32) [(.int 48), (.int 49), (.int 50), (.int 51), (.int 52), (.int 53), (.int 54), (.int 55), (.int 56), (.int 57), (.int 65), (.int 66), (.int 67), (.int 68), (.int 69), (.int 70)] (.int 0) (own_hexb (own_hi u1)) h283 n0 zs284 f299 qC qF xE283 xC283 xF283 xV283 (own_ix16 (own_hiR _)).1 (own_ix16 (own_hiR _)).2 (own_hexT (own_hiR _))) hZ (H 116 rfl) (H 21 rfl) (by decide) (by decide)) qa300 qc300 (g := (own_top pre298)) rfl (by rw [hml]; rfl) (Steps.refl _) (argsL := [(.int (own_hi u1))]) (rest := [(.ref b1)]) (lenOf pd_19 rfl) rfl (by show 2 * 0 + _ ≤ _; exact Nat.le_of_eq rfl) (hb hby d1_131) (fun _ _ => ⟨rfl, e283, (by decide : 10 + 0 ≤ _), (by decide : 215 + 0 ≤ _)⟩)
   dsimp only [Pt.U, Pt.locs, Pt.cells, Pt.slots] at X300 l300 y300 z300 st300 hQ300
   subst l300 y300 z300
   obtain ⟨rfl, Nq300, eq300⟩ := hQ300
   have N300 := Fr.app N254 Nq300
   have pre301 : own_Go p e below S0 (T300.setTop (mkF m 134 #[vR a1, vR b1, vR a1, vI 3, vI 1, vI u1, vI (own_cb u1)] [(.int (own_lc (own_hexb (own_hi u1)))), (.ref b1)])) := by
    intro t kt
    refine pre298 t ?_
    refine st300.trans ?_
    show Steps p.tables e below (T300.setTop (mkF m 134 #[vR a1, vR b1, vR a1, vI 3, vI 1, vI u1, vI (own_cb u1)] [(.int (own_lc (own_hexb (own_hi u1)))), (.ref b1)])) _
    exact kt
   have f303 : Arv Z h283 a1 k1 .byte (3 : Int32) [(.int u0), (.int u1), (.int u2)] (.int 0) := ((f241.keep K254 (ninS ne2 (ninS qj237 nin0))).ext E283)
   have lt302 : a1 < h283.size := f303.lt
   have f305 : Exa Z h283 b1 "java/lang/StringBuilder" := (g265.ext E283)
   have lt304 : b1 < h283.size := f305.lt
   have f307 : Exa Z h283 b19 "[B" := ((f252.keep K254).ext E283)
   have lt306 : b19 < h283.size := f307.lt
   have f309 : Exa Z h283 va1 "[B" := (f282.ext E283)
   have lt308 : va1 < h283.size := f309.lt
   have lt310 : b283 < h283.size := xE283.lt
   have lt311 : v283 < h283.size := xV283.lt
   have f312 : Fld Z h283 b1 "java/lang/AbstractStringBuilder" "value" "[B" (.ref vb255) := (g266.ext E283)
   have f313 : Fld Z h283 b1 "java/lang/AbstractStringBuilder" "coder" "B" (.int 0) := (g267.ext E283)
   have f314 : Fld Z h283 b1 "java/lang/AbstractStringBuilder" "count" "I" (.int (own_len ((([] : List Int32) ++ (own_e1 u0)) ++ [(37 : Int32)]))) := (g268.ext E283)
   have f315 : Exa Z h283 vb255 "[B" := (g262.ext E283)
   have f316 : Arv Z h283 vb255 kb256 .byte z2257 vs2258 (.int 0) := (g263.ext E283)
   obtain ⟨cq317, kq317, qa317, qb317, qc317⟩ := isOf hZ eq300 f305
   obtain ⟨_, _, ⟨T317, L317, k317, n317⟩, -, X317, ⟨Lc317, hQ317, l317, y317, z317⟩, st317⟩ := X300.virtualBack hx (y := own_m21) (z := own_m21) hown (mvT hZ (H 90 rfl)) (mvT hZ (H 91 rfl)) (notFace_of_selects (args := #[]) (mvT hZ (H 93 rfl))) (mvT hZ (H 93 rfl)) (mvT hZ (H 92 rfl)) (by decide) (backOf (W := 0) (rmsaA3 l Z a0 hw [] b1 (own_lc (own_hexb (own_hi u1))) wC vb255 kb256 z2257 vs2258 ((([] : List Int32) ++ (own_e1 u0)) ++ [(37 : Int32)]) h283 n0 zs284 f299 qC f305 f312 f313 f314 f315 f316 ge3 g260 g261 g264 (by have q0 := own_e1L u0; simp only [List.length_append, List.length_cons, List.length_nil]; omega) (own_canR (own_lcR _).2)) hZ (H 94 rfl) (H 7 rfl) (by decide) (by decide)) qa317 qc317 (g := (own_top pre301)) rfl (by rw [hml]; rfl) (Steps.refl _) (argsL := [(.int (own_lc (own_hexb (own_hi u1))))]) (rest := []) (lenOf pd_18 rfl) rfl (by show 2 * 0 + _ ≤ _; exact Nat.le_of_eq rfl) (hb hby d1_134) (fun _ _ => ⟨rfl, eq300, (by decide : 10 + 1 ≤ _), (by decide : 215 + 18 ≤ _)⟩)
   dsimp only [Pt.U, Pt.locs, Pt.cells, Pt.slots] at X317 l317 y317 z317 st317 hQ317
   subst l317 y317 z317
   obtain ⟨vb318, kb319, z2320, vs2321, rfl, Nq317, K317, g322, g323, g324, g325, g326, g327, g328, g329, g330, g331⟩ := hQ317
   have N317 := Fr.app N300 Nq317
   have zs332 : n0 ≤ T317.heap.size := Nat.le_trans zs284 K317.1
   have kc333 : Keep h0 T317.heap [] := kc285.trans K317 (allS (Or.inr sz5) (allS (Or.inr sz278) all0))
   have kc334 : Keep hj48 T317.heap [b1, va1] := kc286.trans K317 (allS (Or.inl (List.mem_of_getElem? (i := 0) rfl)) (allS sd279 all0))
   have hk335 : _ ≤ T317.heap.size := Nat.le_trans hk283 K317.1
   have ch336 : CHr Z own_EL s.vm h0 T283.vm T317.heap := ch287.trans (CHr.keep K317 (allS sf288 (allS sf290 all0)) ch287.1)
   have sf337 : Safe Z own_EL T283.vm T317.heap b1 := Safe.keep K317 (allS sf288 (allS sf290 all0)) ch287.1 sf288
   have sf338 : Safe Z own_EL T283.vm T317.heap va1 := Safe.keep K317 (allS sf288 (allS sf290 all0)) ch287.1 sf289
   have sf339 : Safe Z own_EL T283.vm T317.heap vb255 := Safe.keep K317 (allS sf288 (allS sf290 all0)) ch287.1 sf290
   have ne340 : a1 ≠ vb318 := by
    rcases g322 with q | q
    ·rw [q]; exact ne276
    ·exact Nat.ne_of_lt (Nat.lt_of_lt_of_le lt302 q)
   have ne341 : b1 ≠ vb318 := by
    rcases g322 with q | q
    ·rw [q]; exact g261
    ·exact Nat.ne_of_lt (Nat.lt_of_lt_of_le lt304 q)
   have ne342 : b283 ≠ vb318 := by
    rcases g322 with q | q
    ·rw [q]; exact (Ne.symm ne295)
    ·exact Nat.ne_of_lt (Nat.lt_of_lt_of_le lt310 q)
   have ne343 : v283 ≠ vb318 := by
    rcases g322 with q | q
    ·rw [q]; exact (Ne.symm ne296)
    ·exact Nat.ne_of_lt (Nat.lt_of_lt_of_le lt311 q)
   have sz344 : h0.size ≤ vb318 := by
    rcases g322 with q | q
    ·rw [q]; exact sz278
    ·exact Nat.le_trans kc285.1 q
   have sd345 : vb318 ∈ [b1, va1] ∨ hj48.size ≤ vb318 := by
    rcases g322 with q | q
    ·rw [q]; exact sd279
    ·exact Or.inr (Nat.le_trans kc286.1 q)
   have sf346 : Safe Z own_EL T283.vm T317.heap vb318 := by
    rcases g322 with q | q
    ·rw [q]; exact sf339
    ·exact Safe.keep K317 (allS sf288 (allS sf290 all0)) ch287.1 (Safe.new q)
   have pre347 : own_Go p e below S0 (T317.setTop (mkF m 137 #[vR a1, vR b1, vR a1, vI 3, vI 1, vI u1, vI (own_cb u1)] [(.ref b1)])) := by
    intro t kt
    refine pre301 t ?_
    refine st317.trans ?_
    show Steps p.tables e below (T317.setTop (mkF m 137 #[vR a1, vR b1, vR a1, vI 3, vI 1, vI u1, vI (own_cb u1)] [(.ref b1)])) _
    exact kt
   have pre348 : own_Go p e below S0 (T317.setTop (mkF m 144 #[vR a1, vR b1, vR a1, vI 3, vI 1, vI u1, vI (own_cb u1)] [(.int ((own_cb u1) &&& (15 : Int32))), (.ref b283), (.ref b1)])) := by
    intro t kt
    refine pre347 t ?_
    refine ldcAgain (s := s) (vm0 := T283.vm) X317 hx hZ hown (H 109 rfl) L283 (g := (own_top pre347)) rfl (hb hby d1_137) _ ?_
    refine XS.iload X317.here hx rfl (hb hby d1_139) rfl ?_
    refine XS.bipush X317.here hx rfl (hb hby d1_141) ?_
    refine XS.iand X317.here hx rfl (hb hby d1_143) rfl ?_
    exact kt
   have pre349 : own_Go p e below S0 (T317.setTop (mkF m 144 #[vR a1, vR b1, vR a1, vI 3, vI 1, vI u1, vI (own_cb u1)] [(.int (own_lo u1)), (.ref b283), (.ref b1)])) := by
    intro t kt
    refine pre348 t ?_
    rw [(rfl : ((own_cb u1) &&& (15 : Int32)) = (own_lo u1))]
    exact kt
   have f350 : Old Z n0 T317.heap := (f299.keep K317 (allS ge3 (allS g260 all0)))
   have f351 : Exa Z T317.heap b283 "java/lang/String" := (xE283.keep K317)
   have f352 : Fld Z T317.heap b283 "java/lang/String" "coder" "B" (.int 0) := (xC283.keep K317 (ninS (Ne.symm ne291) (ninS (Ne.symm ne295) nin0)))
   have f353 : Fld Z T317.heap b283 "java/lang/String" "value" "[B" (.ref v283) := (xF283.keep K317 (ninS (Ne.symm ne291) (ninS (Ne.symm ne295) nin0)))
   have f354 : Arv Z T317.heap v283 kv283 .byte (16 : Int32) [(.int 48), (.int 49), (.int 50), (.int 51), (.int 52), (.int 53), (.int 54), (.int 55), (.int 56), (.int 57), (.int 65), (.int 66), (.int 67), (.int 68), (.int 69), (.int 70)] (.int 0) := (xV283.keep K317 (ninS (Ne.symm ne292) (ninS (Ne.symm ne296) nin0)))
   obtain ⟨cq355, kq355, qa355, qb355, qc355⟩ := isOf hZ rfl f351
   obtain ⟨_, _, ⟨T355, L355, k355, n355⟩, -, X355, ⟨Lc355, hQ355, l355, y355, z355⟩, st355⟩ := X317.virtualBack hx (y := own_m15) (z := own_m15) hown (mvT hZ (H 112 rfl)) (mvT hZ (H 113 rfl)) (notFace_of_selects (args := #[]) (mvT hZ (H 115 rfl))) (mvT hZ (H 115 rfl)) (mvT hZ (H 114 rfl)) (by decide) (backOf (W := 1) (rmchA l Z a0 hw [] b283 (own_lo u1) wC wF v283 kv283 (16 : Int32) [(.int 48), (.int 49), (.int 50), (.int 51), (.int 52), (.int 53), (.int 54), (.int 55), (.int 56), (.int 57), (.int 65), (.int 66), (.int 67), (.int 68), (.int 69), (.int 70)] (.int 0) (own_hexb (own_lo u1)) T317.heap n0 zs332 f350 qC qF f351 f352 f353 f354 (own_ix16 (own_loR _)).1 (own_ix16 (own_loR _)).2 (own_hexT (own_loR _))) hZ (H 116 rfl) (H 21 rfl) (by decide) (by decide)) qa355 qc355 (g := (own_top pre349)) rfl (by rw [hml]; rfl) (Steps.refl _) (argsL := [(.int (own_lo u1))]) (rest := [(.ref b1)]) (lenOf pd_19 rfl) rfl (by show 2 * 0 + _ ≤ _; exact Nat.le_of_eq rfl) (hb hby d1_144) (fun _ _ => ⟨rfl, rfl, (by decide : 11 + 0 ≤ _), (by decide : 233 + 0 ≤ _)⟩)
   dsimp only [Pt.U, Pt.locs, Pt.cells, Pt.slots] at X355 l355 y355 z355 st355 hQ355
   subst l355 y355 z355
   obtain ⟨rfl, Nq355, eq355⟩ := hQ355
   have N355 := Fr.app N317 Nq355
   have pre356 : own_Go p e below S0 (T355.setTop (mkF m 147 #[vR a1, vR b1, vR a1, vI 3, vI 1, vI u1, vI (own_cb u1)] [(.int (own_lc (own_hexb (own_lo u1)))), (.ref b1)])) := by
    intro t kt
    refine pre349 t ?_
    refine st355.trans ?_
    show Steps p.tables e below (T355.setTop (mkF m 147 #[vR a1, vR b1, vR a1, vI 3, vI 1, vI u1, vI (own_cb u1)] [(.int (own_lc (own_hexb (own_lo u1)))), (.ref b1)])) _
    exact kt
   have f358 : Arv Z T317.heap a1 k1 .byte (3 : Int32) [(.int u0), (.int u1), (.int u2)] (.int 0) := (f303.keep K317 (ninS ne2 (ninS ne276 nin0)))
   have lt357 : a1 < T317.heap.size := f358.lt
   have lt359 : b1 < T317.heap.size := g328.lt
   have f361 : Exa Z T317.heap b19 "[B" := (f307.keep K317)
   have lt360 : b19 < T317.heap.size := f361.lt
   have f363 : Exa Z T317.heap va1 "[B" := (f309.keep K317)
   have lt362 : va1 < T317.heap.size := f363.lt
   have f365 : Exa Z T317.heap vb255 "[B" := (f315.keep K317)
   have lt364 : vb255 < T317.heap.size := f365.lt
   have lt366 : b283 < T317.heap.size := f351.lt
   have lt367 : v283 < T317.heap.size := f354.lt
   obtain ⟨cq368, kq368, qa368, qb368, qc368⟩ := isOf hZ eq355 g328
   obtain ⟨_, _, ⟨T368, L368, k368, n368⟩, -, X368, ⟨Lc368, hQ368, l368, y368, z368⟩, st368⟩ := X355.virtualBack hx (y := own_m21) (z := own_m21) hown (mvT hZ (H 90 rfl)) (mvT hZ (H 91 rfl)) (notFace_of_selects (args := #[]) (mvT hZ (H 93 rfl))) (mvT hZ (H 93 rfl)) (mvT hZ (H 92 rfl)) (by decide) (backOf (W := 0) (rmsaA3 l Z a0 hw [] b1 (own_lc (own_hexb (own_lo u1))) wC vb318 kb319 z2320 vs2321 (((([] : List Int32) ++ (own_e1 u0)) ++ [(37 : Int32)]) ++ [(own_lc (own_hexb (own_hi u1)))]) T317.heap n0 zs332 f350 qC g328 g329 g330 g331 g325 g326 ge3 g323 g324 g327 (by have q0 := own_e1L u0; simp only [List.length_append, List.length_cons, List.length_nil]; omega) (own_canR (own_lcR _).2)) hZ (H 94 rfl) (H 7 rfl) (by decide) (by decide)) qa368 qc368 (g := (own_top pre356)) rfl (by rw [hml]; rfl) (Steps.refl _) (argsL := [(.int (own_lc (own_hexb (own_lo u1))))]) (rest := []) (lenOf pd_18 rfl) rfl (by show 2 * 0 + _ ≤ _; exact Nat.le_of_eq rfl) (hb hby d1_147) (fun _ _ => ⟨rfl, eq355, (by decide : 11 + 1 ≤ _), (by decide : 233 + 18 ≤ _)⟩)
   dsimp only [Pt.U, Pt.locs, Pt.cells, Pt.slots] at X368 l368 y368 z368 st368 hQ368
   subst l368 y368 z368
   obtain ⟨vb369, kb370, z2371, vs2372, rfl, Nq368, K368, g373, g374, g375, g376, g377, g378, g379, g380, g381, g382⟩ := hQ368
   have N368 := Fr.app N355 Nq368
   have zs383 : n0 ≤ T368.heap.size := Nat.le_trans zs332 K368.1
   have kc384 : Keep h0 T368.heap [] := kc333.trans K368 (allS (Or.inr sz5) (allS (Or.inr sz344) all0))
   have kc385 : Keep hj48 T368.heap [b1, va1] := kc334.trans K368 (allS (Or.inl (List.mem_of_getElem? (i := 0) rfl)) (allS sd345 all0))
   have hk386 : _ ≤ T368.heap.size := Nat.le_trans hk335 K368.1
   have ch387 : CHr Z own_EL s.vm h0 T283.vm T368.heap := ch336.trans (CHr.keep K368 (allS sf337 (allS sf346 all0)) ch336.1)
   have sf388 : Safe Z own_EL T283.vm T368.heap b1 := Safe.keep K368 (allS sf337 (allS sf346 all0)) ch336.1 sf337
   have sf389 : Safe Z own_EL T283.vm T368.heap va1 := Safe.keep K368 (allS sf337 (allS sf346 all0)) ch336.1 sf338
   have sf390 : Safe Z own_EL T283.vm T368.heap vb255 := Safe.keep K368 (allS sf337 (allS sf346 all0)) ch336.1 sf339
   have sf391 : Safe Z own_EL T283.vm T368.heap vb318 := Safe.keep K368 (allS sf337 (allS sf346 all0)) ch336.1 sf346
   have ne392 : a1 ≠ vb369 := by
    rcases g373 with q | q
    ·rw [q]; exact ne340
    ·exact Nat.ne_of_lt (Nat.lt_of_lt_of_le lt357 q)
   have ne393 : b1 ≠ vb369 := by
    rcases g373 with q | q
    ·rw [q]; exact g324
    ·exact Nat.ne_of_lt (Nat.lt_of_lt_of_le lt359 q)
   have ne394 : b283 ≠ vb369 := by
    rcases g373 with q | q
    ·rw [q]; exact ne342
    ·exact Nat.ne_of_lt (Nat.lt_of_lt_of_le lt366 q)
   have ne395 : v283 ≠ vb369 := by
    rcases g373 with q | q
    ·rw [q]; exact ne343
    ·exact Nat.ne_of_lt (Nat.lt_of_lt_of_le lt367 q)
   have sz396 : h0.size ≤ vb369 := by
    rcases g373 with q | q
    ·rw [q]; exact sz344
    ·exact Nat.le_trans kc333.1 q
   have sd397 : vb369 ∈ [b1, va1] ∨ hj48.size ≤ vb369 := by
    rcases g373 with q | q
    ·rw [q]; exact sd345
    ·exact Or.inr (Nat.le_trans kc334.1 q)
   have sf398 : Safe Z own_EL T283.vm T368.heap vb369 := by
    rcases g373 with q | q
    ·rw [q]; exact sf391
    ·exact Safe.keep K368 (allS sf337 (allS sf346 all0)) ch336.1 (Safe.new q)
   have pre399 : own_Go p e below S0 (T368.setTop (mkF m 151 #[vR a1, vR b1, vR a1, vI 3, vI 1, vI u1, vI (own_cb u1)] [])) := by
    intro t kt
    refine pre356 t ?_
    refine st368.trans ?_
    show Steps p.tables e below (T368.setTop (mkF m 150 #[vR a1, vR b1, vR a1, vI 3, vI 1, vI u1, vI (own_cb u1)] [(.ref b1)])) _
    refine XS.pop X368.here hx rfl (hb hby d1_150) rfl rfl ?_
    exact kt
   exact ⟨vb369, kb370, z2371, vs2372, T368, _, _, T283.vm, _, (Stand.mono X368 (by decide) (by decide)), N368, rfl, kc385, hS283, hk386, hZ, hown, ch387, sf388, sf398, ((show ((((([] : List Int32) ++ (own_e1 u0)) ++ [(37 : Int32)]) ++ [(own_lc (own_hexb (own_hi u1)))]) ++ [(own_lc (own_hexb (own_lo u1)))]) = ((([] : List Int32) ++ (own_e1 u0)) ++ (own_e1 u1)) from by rw [show own_e1 u1 = [37, own_lc (own_hexb (own_hi u1)), own_lc (own_hexb (own_lo u1))] from by rw [own_e1, if_pos hu245]] <;> simp) ▸ g378), g374, g375, g376, g377, g379, g380, g381, ((show ((((([] : List Int32) ++ (own_e1 u0)) ++ [(37 : Int32)]) ++ [(own_lc (own_hexb (own_hi u1)))]) ++ [(own_lc (own_hexb (own_lo u1)))]) = ((([] : List Int32) ++ (own_e1 u0)) ++ (own_e1 u1)) from by rw [show own_e1 u1 = [37, own_lc (own_hexb (own_hi u1)), own_lc (own_hexb (own_lo u1))] from by rw [own_e1, if_pos hu245]] <;> simp) ▸ g382), sz396, ne392, pre399⟩
  ·have pre400 : own_Go p e below S0 (Tj48.setTop (mkF m 109 #[vR a1, vR b1, vR a1, vI 3, vI 1, vI u1, vI (own_cb u1)] [])) := fun t k => pre244 t ((own_test Xj48 hx hby _ _ _ _ _ _ _).2 hu245 t k)
   have pre401 : own_Go p e below S0 (Tj48.setTop (mkF m 112 #[vR a1, vR b1, vR a1, vI 3, vI 1, vI u1, vI (own_cb u1)] [(.int (own_cb u1)), (.ref b1)])) := by
    intro t kt
    refine pre400 t ?_
    refine XS.aloadN Xj48.here hx rfl (hb hby d1_109) rfl rfl ?_
    refine XS.iload Xj48.here hx rfl (hb hby d1_110) rfl ?_
    exact kt
   have lt402 : a1 < hj48.size := f241.lt
   have lt403 : b1 < hj48.size := qj232.lt
   have f405 : Exa Z hj48 b19 "[B" := (g22.keep Kj48)
   have lt404 : b19 < hj48.size := f405.lt
   have f406 : Old Z n0 hj48 := ((f17.keep K18 (allS ge3 all0)).keep Kj48 (allS ge3 (allS ge30 all0)))
   obtain ⟨cq407, kq407, qa407, qb407, qc407⟩ := isOf hZ ej48 qj232
   obtain ⟨_, _, ⟨T407, L407, k407, n407⟩, -, X407, ⟨Lc407, hQ407, l407, y407, z407⟩, st407⟩ := Xj48.virtualBack hx (y := own_m21) (z := own_m21) hown (mvT hZ (H 90 rfl)) (mvT hZ (H 91 rfl)) (notFace_of_selects (args := #[]) (mvT hZ (H 93 rfl))) (mvT hZ (H 93 rfl)) (mvT hZ (H 92 rfl)) (by decide) (backOf (W := 0) (rmsaA3 l Z a0 hw [] b1 (own_cb u1) wC va1 kv1 zv1 lv1 (([] : List Int32) ++ (own_e1 u0)) hj48 n0 zs238 f406 qC qj232 qj233 qj234 qj235 qj230 qj231 ge3 qj228 qj229 pj227 (by have q0 := own_e1L u0; simp only [List.length_append, List.length_cons, List.length_nil]; omega) (own_canR (own_cbR _).2)) hZ (H 94 rfl) (H 7 rfl) (by decide) (by decide)) qa407 qc407 (g := (own_top pre401)) rfl (by rw [hml]; rfl) (Steps.refl _) (argsL := [(.int (own_cb u1))]) (rest := []) (lenOf pd_18 rfl) rfl (by show 2 * 0 + _ ≤ _; exact Nat.le_of_eq rfl) (hb hby d1_112) (fun _ _ => ⟨rfl, ej48, (by decide : 7 + 1 ≤ _), (by decide : 129 + 18 ≤ _)⟩)
   dsimp only [Pt.U, Pt.locs, Pt.cells, Pt.slots] at X407 l407 y407 z407 st407 hQ407
   subst l407 y407 z407
   obtain ⟨vb408, kb409, z2410, vs2411, rfl, Nq407, K407, g412, g413, g414, g415, g416, g417, g418, g419, g420, g421⟩ := hQ407
   have N407 := Fr.app Nj48 Nq407
   have zs422 : n0 ≤ T407.heap.size := Nat.le_trans zs238 K407.1
   have kc423 : Keep h0 T407.heap [] := kc239.trans K407 (allS (Or.inr sz5) (allS (Or.inr qj236) all0))
   have kc424 : Keep hj48 T407.heap [b1, va1] := kjj246.trans K407 (allS (Or.inl (List.mem_of_getElem? (i := 0) rfl)) (allS (Or.inl (List.mem_of_getElem? (i := 1) rfl)) all0))
   have hk425 : _ ≤ T407.heap.size := Nat.le_trans hkj48 K407.1
   have ch426 : CHr Z own_EL s.vm h0 vmj48 T407.heap := chj48.trans (CHr.keep K407 (allS sfj480 (allS sfj481 all0)) chj48.1)
   have sf427 : Safe Z own_EL vmj48 T407.heap b1 := Safe.keep K407 (allS sfj480 (allS sfj481 all0)) chj48.1 sfj480
   have sf428 : Safe Z own_EL vmj48 T407.heap va1 := Safe.keep K407 (allS sfj480 (allS sfj481 all0)) chj48.1 sfj481
   have ne429 : a1 ≠ vb408 := by
    rcases g412 with q | q
    ·rw [q]; exact qj237
    ·exact Nat.ne_of_lt (Nat.lt_of_lt_of_le lt402 q)
   have ne430 : b1 ≠ vb408 := by
    rcases g412 with q | q
    ·rw [q]; exact qj229
    ·exact Nat.ne_of_lt (Nat.lt_of_lt_of_le lt403 q)
   have sz431 : h0.size ≤ vb408 := by
    rcases g412 with q | q
    ·rw [q]; exact qj236
    ·exact Nat.le_trans kc239.1 q
   have sd432 : vb408 ∈ [b1, va1] ∨ hj48.size ≤ vb408 := by
    rcases g412 with q | q
    ·rw [q]; exact Or.inl (List.mem_of_getElem? (i := 1) rfl)
    ·exact Or.inr (Nat.le_trans kjj246.1 q)
   have sf433 : Safe Z own_EL vmj48 T407.heap vb408 := by
    rcases g412 with q | q
    ·rw [q]; exact sf428
    ·exact Safe.keep K407 (allS sfj480 (allS sfj481 all0)) chj48.1 (Safe.new q)
   have pre434 : own_Go p e below S0 (T407.setTop (mkF m 151 #[vR a1, vR b1, vR a1, vI 3, vI 1, vI u1, vI (own_cb u1)] [])) := by
    intro t kt
    refine pre401 t ?_
    refine st407.trans ?_
    show Steps p.tables e below (T407.setTop (mkF m 115 #[vR a1, vR b1, vR a1, vI 3, vI 1, vI u1, vI (own_cb u1)] [(.ref b1)])) _
    refine XS.pop X407.here hx rfl (hb hby d1_115) rfl rfl ?_
    refine XS.goto X407.here hx rfl (pc0 := 116) (pc' := 151) rfl (hb hby d1_116) (by decide) (by decide) ?_
    exact kt
   exact ⟨vb408, kb409, z2410, vs2411, T407, _, _, vmj48, _, (Stand.mono X407 (by decide) (by decide)), N407, rfl, kc424, hSj48, hk425, hZ, hown, ch426, sf427, sf433, ((show ((([] : List Int32) ++ (own_e1 u0)) ++ [(own_cb u1)]) = ((([] : List Int32) ++ (own_e1 u0)) ++ (own_e1 u1)) from by rw [show own_e1 u1 = [own_cb u1] from by rw [own_e1, if_neg hu245]] <;> simp) ▸ g417), g413, g414, g415, g416, g418, g419, g420, ((show ((([] : List Int32) ++ (own_e1 u0)) ++ [(own_cb u1)]) = ((([] : List Int32) ++ (own_e1 u0)) ++ (own_e1 u1)) from by rw [show own_e1 u1 = [own_cb u1] from by rw [own_e1, if_neg hu245]] <;> simp) ▸ g421), sz431, ne429, pre434⟩
 have zs446 : n0 ≤ hj246.size := Nat.le_trans zs238 Kj246.1
 have kc447 : Keep h0 hj246 [] := kc239.trans Kj246 (allS (Or.inr sz5) (allS (Or.inr qj236) all0))
 have pre448 : own_Go p e below S0 (Tj246.setTop (mkF m 27 #[vR a1, vR b1, vR a1, vI 3, vI 2, vI u1, vI (own_cb u1)] [(.int 2), (.ref a1)])) := by
  intro t kt
  refine prej246 t ?_
  refine XS.iinc Xj246.here hx rfl (hb hby d1_151) rfl (l' := #[vR a1, vR b1, vR a1, vI 3, vI 2, vI u1, vI (own_cb u1)]) rfl ?_
  refine XS.goto Xj246.here hx rfl (pc0 := 154) (pc' := 18) rfl (hb hby d1_154) (by decide) (by decide) ?_
  refine XS.iload Xj246.here hx rfl (hb hby d1_18) rfl ?_
  refine XS.iloadN Xj246.here hx rfl (hb hby d1_20) rfl ?_
  refine XS.icmpNo Xj246.here hx rfl (hb hby d1_21) rfl (tlt (by decide : (2 : Int32) < (3 : Int32))).2.1 ?_
  refine XS.aloadN Xj246.here hx rfl (hb hby d1_24) rfl rfl ?_
  refine XS.iload Xj246.here hx rfl (hb hby d1_25) rfl ?_
  exact kt
 have f449 : Arv Z hj246 a1 k1 .byte (3 : Int32) [(.int u0), (.int u1), (.int u2)] (.int 0) := (f241.keep Kj246 (ninS ne2 (ninS qj237 nin0)))
 obtain ⟨cl450, Ar450, -, Sz450, -, Hs450, -⟩ := id f449
 have hin450 : ¬ ((2 : Int32) < 0 ∨ cl450.slots.size ≤ ((2 : Int32)).toNatClampNeg) := inb_of Sz450 ⟨by decide, by decide⟩
 have pre451 : own_Go p e below S0 (Tj246.setTop (mkF m 39 #[vR a1, vR b1, vR a1, vI 3, vI 2, vI u2, vI ((u2 &&& (255 : Int32)).toUInt32.toUInt16.toUInt32.toInt32)] [])) := by
  intro t kt
  refine pre448 t ?_
  refine Xj246.baloadBytes hx (j := (2 : Int32)) (v := (.int u2)) (by rw [ej246]; exact Ar450.1) (State.isArrayOf_alike hZ.alike Ar450.2.1) Ar450.2.2 hin450 (Hs450.at hin450 rfl) (g := (mkF m 27 #[vR a1, vR b1, vR a1, vI 3, vI 2, vI u1, vI (own_cb u1)] [(.int 2), (.ref a1)])) rfl rfl (hb hby d1_27) _ ?_
  refine XS.istore Xj246.here hx rfl (hb hby d1_28) rfl (l' := #[vR a1, vR b1, vR a1, vI 3, vI 2, vI u2, vI (own_cb u1)]) rfl ?_
  refine XS.iload Xj246.here hx rfl (hb hby d1_30) rfl ?_
  refine XS.sipush Xj246.here hx rfl (hb hby d1_32) ?_
  refine XS.iand Xj246.here hx rfl (hb hby d1_35) rfl ?_
  refine XS.i2c Xj246.here hx rfl (hb hby d1_36) rfl ?_
  refine XS.istore Xj246.here hx rfl (hb hby d1_37) rfl (l' := #[vR a1, vR b1, vR a1, vI 3, vI 2, vI u2, vI ((u2 &&& (255 : Int32)).toUInt32.toUInt16.toUInt32.toInt32)]) rfl ?_
  exact kt
 have pre452 : own_Go p e below S0 (Tj246.setTop (mkF m 39 #[vR a1, vR b1, vR a1, vI 3, vI 2, vI u2, vI (own_cb u2)] [])) := by
  intro t kt
  refine pre451 t ?_
  rw [(rfl : ((u2 &&& (255 : Int32)).toUInt32.toUInt16.toUInt32.toInt32) = (own_cb u2))]
  exact kt
 obtain ⟨va3, kv3, zv3, lv3, Tj454, lj454, hj454, vmj454, knj454, Xj454, Nj454, ej454, Kj454, hSj454, hkj454, hZ, hown, chj454, sfj4540, sfj4541, pj651, qj652, qj653, qj654, qj655, qj656, qj657, qj658, qj659, qj660, qj661, prej454⟩ : ∃ (va3 : Addr) (kv3 : ClassId) (zv3 : Int32) (lv3 : List Value) (Tj454 : State) (lj454 : List Loc) (hj454 : Heap) (vmj454 : Vm) (knj454 : Nat), Stand p l e (own_r 7 19 386 117) (s.setVm vmj454) m #[(.ref a1)] below meth c Tj454 lj454 17 373 ∧ Fr n0 lj454 ∧ Tj454.heap = hj454 ∧ Keep hj246 hj454 [b1, va2] ∧ s.Since vmj454 knj454 ∧ knj454 ≤ hj454.size ∧ Z.Warmed39 (s.setVm vmj454).vm ∧ (s.setVm vmj454).vm.findClass "com/example/permgrid/permgrid/PercentEncoding" = some m.cls ∧ CHr Z own_EL s.vm h0 vmj454 hj454 ∧ Safe Z own_EL vmj454 hj454 b1 ∧ Safe Z own_EL vmj454 hj454 va3 ∧ own_Fit3 zv3 lv3 (((([] : List Int32) ++ (own_e1 u0)) ++ (own_e1 u1)) ++ (own_e1 u2)) ∧ n0 ≤ va3 ∧ b1 ≠ va3 ∧ Exa Z hj454 va3 "[B" ∧ Arv Z hj454 va3 kv3 .byte zv3 lv3 (.int 0) ∧ Exa Z hj454 b1 "java/lang/StringBuilder" ∧ Fld Z hj454 b1 "java/lang/AbstractStringBuilder" "value" "[B" (.ref va3) ∧ Fld Z hj454 b1 "java/lang/AbstractStringBuilder" "coder" "B" (.int 0) ∧ Fld Z hj454 b1 "java/lang/AbstractStringBuilder" "count" "I" (.int (own_len (((([] : List Int32) ++ (own_e1 u0)) ++ (own_e1 u1)) ++ (own_e1 u2)))) ∧ (h0.size ≤ va3) ∧ a1 ≠ va3 ∧ own_Go p e below S0 (Tj454.setTop (mkF m 151 #[vR a1, vR b1, vR a1, vI 3, vI 2, vI u2, vI (own_cb u2)] [])) := by
  have kjj454 : Keep hj246 hj246 [b1, va2] := Keep.refl _ _
  by_cases hu453 : (own_unr (own_cb u2)) = (0 : Int32)
  ·have pre455 : own_Go p e below S0 (Tj246.setTop (mkF m 119 #[vR a1, vR b1, vR a1, vI 3, vI 2, vI u2, vI (own_cb u2)] [])) := fun t k => pre452 t ((own_test Xj246 hx hby _ _ _ _ _ _ _).1 hu453 t k)
   have pre456 : own_Go p e below S0 (Tj246.setTop (mkF m 122 #[vR a1, vR b1, vR a1, vI 3, vI 2, vI u2, vI (own_cb u2)] [(.int 37), (.ref b1)])) := by
    intro t kt
    refine pre455 t ?_
    refine XS.aloadN Xj246.here hx rfl (hb hby d1_119) rfl rfl ?_
    refine XS.bipush Xj246.here hx rfl (hb hby d1_120) ?_
    exact kt
   have lt457 : a1 < hj246.size := f449.lt
   have lt458 : b1 < hj246.size := qj440.lt
   have f460 : Exa Z hj246 b19 "[B" := ((g22.keep Kj48).keep Kj246)
   have lt459 : b19 < hj246.size := f460.lt
   have f462 : Exa Z hj246 va1 "[B" := (qj230.keep Kj246)
   have lt461 : va1 < hj246.size := f462.lt
   have f463 : Old Z n0 hj246 := (((f17.keep K18 (allS ge3 all0)).keep Kj48 (allS ge3 (allS ge30 all0))).keep Kj246 (allS ge3 (allS qj228 all0)))
   obtain ⟨cq464, kq464, qa464, qb464, qc464⟩ := isOf hZ ej246 qj440
   obtain ⟨_, _, ⟨T464, L464, k464, n464⟩, -, X464, ⟨Lc464, hQ464, l464, y464, z464⟩, st464⟩ := Xj246.virtualBack hx (y := own_m21) (z := own_m21) hown (mvT hZ (H 90 rfl)) (mvT hZ (H 91 rfl)) (notFace_of_selects (args := #[]) (mvT hZ (H 93 rfl))) (mvT hZ (H 93 rfl)) (mvT hZ (H 92 rfl)) (by decide) (backOf (W := 0) (rmsaA3 l Z a0 hw [] b1 (37 : Int32) wC va2 kv2 zv2 lv2 ((([] : List Int32) ++ (own_e1 u0)) ++ (own_e1 u1)) hj246 n0 zs446 f463 qC qj440 qj441 qj442 qj443 qj438 qj439 ge3 qj436 qj437 pj435 (by have q0 := own_e1L u0; have q1 := own_e1L u1; simp only [List.length_append, List.length_cons, List.length_nil]; omega) (by decide)) hZ (H 94 rfl) (H 7 rfl) (by decide) (by decide)) qa464 qc464 (g := (own_top pre456)) rfl (by rw [hml]; rfl) (Steps.refl _) (argsL := [(.int 37)]) (rest := []) (lenOf pd_18 rfl) rfl (by show 2 * 0 + _ ≤ _; exact Nat.le_of_eq rfl) (hb hby d1_122) (fun _ _ => ⟨rfl, ej246, (by decide : 12 + 1 ≤ _), (by decide : 251 + 18 ≤ _)⟩)
   dsimp only [Pt.U, Pt.locs, Pt.cells, Pt.slots] at X464 l464 y464 z464 st464 hQ464
   subst l464 y464 z464
   obtain ⟨vb465, kb466, z2467, vs2468, rfl, Nq464, K464, g469, g470, g471, g472, g473, g474, g475, g476, g477, g478⟩ := hQ464
   have N464 := Fr.app Nj246 Nq464
   have zs479 : n0 ≤ T464.heap.size := Nat.le_trans zs446 K464.1
   have kc480 : Keep h0 T464.heap [] := kc447.trans K464 (allS (Or.inr sz5) (allS (Or.inr qj444) all0))
   have kc481 : Keep hj246 T464.heap [b1, va2] := kjj454.trans K464 (allS (Or.inl (List.mem_of_getElem? (i := 0) rfl)) (allS (Or.inl (List.mem_of_getElem? (i := 1) rfl)) all0))
   have hk482 : _ ≤ T464.heap.size := Nat.le_trans hkj246 K464.1
   have ch483 : CHr Z own_EL s.vm h0 vmj246 T464.heap := chj246.trans (CHr.keep K464 (allS sfj2460 (allS sfj2461 all0)) chj246.1)
   have sf484 : Safe Z own_EL vmj246 T464.heap b1 := Safe.keep K464 (allS sfj2460 (allS sfj2461 all0)) chj246.1 sfj2460
   have sf485 : Safe Z own_EL vmj246 T464.heap va2 := Safe.keep K464 (allS sfj2460 (allS sfj2461 all0)) chj246.1 sfj2461
   have ne486 : a1 ≠ vb465 := by
    rcases g469 with q | q
    ·rw [q]; exact qj445
    ·exact Nat.ne_of_lt (Nat.lt_of_lt_of_le lt457 q)
   have ne487 : b1 ≠ vb465 := by
    rcases g469 with q | q
    ·rw [q]; exact qj437
    ·exact Nat.ne_of_lt (Nat.lt_of_lt_of_le lt458 q)
   have sz488 : h0.size ≤ vb465 := by
    rcases g469 with q | q
    ·rw [q]; exact qj444
    ·exact Nat.le_trans kc447.1 q
   have sd489 : vb465 ∈ [b1, va2] ∨ hj246.size ≤ vb465 := by
    rcases g469 with q | q
    ·rw [q]; exact Or.inl (List.mem_of_getElem? (i := 1) rfl)
    ·exact Or.inr (Nat.le_trans kjj454.1 q)
   have sf490 : Safe Z own_EL vmj246 T464.heap vb465 := by
    rcases g469 with q | q
    ·rw [q]; exact sf485
    ·exact Safe.keep K464 (allS sfj2460 (allS sfj2461 all0)) chj246.1 (Safe.new q)
   have pre491 : own_Go p e below S0 (T464.setTop (mkF m 125 #[vR a1, vR b1, vR a1, vI 3, vI 2, vI u2, vI (own_cb u2)] [(.ref b1)])) := by
    intro t kt
    refine pre456 t ?_
    refine st464.trans ?_
    show Steps p.tables e below (T464.setTop (mkF m 125 #[vR a1, vR b1, vR a1, vI 3, vI 2, vI u2, vI (own_cb u2)] [(.ref b1)])) _
    exact kt
   have f492 : Exa Z T464.heap va2 "[B" := (qj438.keep K464)
   obtain ⟨b493, T493, h493, k493, v493, kv493, X493, e493, E493, hS493, hk493, hZ, hown, xE493, xC493, xF493, xV493, -, -, cr493, L493, hne493, st493⟩ := ldcCH (s := s) (vm0 := vmj246) X464 hx hZ hown (H 109 rfl) (own_strAtoms a0 Z hw) rfl hSj246 hk482 (own_EW a0 Z hw) (List.mem_of_getElem? (i := 0) rfl) ch483.1 (vs := [(.int 48), (.int 49), (.int 50), (.int 51), (.int 52), (.int 53), (.int 54), (.int 55), (.int 56), (.int 57), (.int 65), (.int 66), (.int 67), (.int 68), (.int 69), (.int 70)]) (z := 16) own_ht0 (by decide) (by decide) (g := (own_top pre491)) rfl (hb hby d1_125) (n := 64) (by decide +kernel) (by decide) (by decide) (by decide)
   have zs494 : n0 ≤ h493.size := Nat.le_trans zs479 E493.1
   have kc495 : Keep h0 h493 [] := kc480.ext E493
   have kc496 : Keep hj246 h493 [b1, va2] := kc481.ext E493
   have ch497 : CHr Z own_EL s.vm h0 T493.vm h493 := ch483.trans (cr493)
   have sf498 : Safe Z own_EL T493.vm h493 b1 := cr493.safe g475.lt sf484
   have sf499 : Safe Z own_EL T493.vm h493 va2 := cr493.safe f492.lt sf485
   have sf500 : Safe Z own_EL T493.vm h493 vb465 := cr493.safe g472.lt sf490
   have ne501 : b1 ≠ b493 := (hne493 _ sf498).1
   have ne502 : b1 ≠ v493 := (hne493 _ sf498).2
   have ne503 : va2 ≠ b493 := (hne493 _ sf499).1
   have ne504 : va2 ≠ v493 := (hne493 _ sf499).2
   have ne505 : vb465 ≠ b493 := (hne493 _ sf500).1
   have ne506 : vb465 ≠ v493 := (hne493 _ sf500).2
   have pre507 : own_Go p e below S0 (T493.setTop (mkF m 131 #[vR a1, vR b1, vR a1, vI 3, vI 2, vI u2, vI (own_cb u2)] [(.int ((own_cb u2) >>> ((4 : Int32) &&& 31))), (.ref b493), (.ref b1)])) := by
    intro t kt
    refine pre491 t ?_
    refine st493 _ ?_
    refine XS.iload X493.here hx rfl (hb hby d1_127) rfl ?_
    refine XS.iconst X493.here hx rfl (hb hby d1_129) ?_
    refine XS.ishr X493.here hx rfl (hb hby d1_130) rfl ?_
    exact kt
   have pre508 : own_Go p e below S0 (T493.setTop (mkF m 131 #[vR a1, vR b1, vR a1, vI 3, vI 2, vI u2, vI (own_cb u2)] [(.int (own_hi u2)), (.ref b493), (.ref b1)])) := by
    intro t kt
    refine pre507 t ?_
    rw [(rfl : ((own_cb u2) >>> ((4 : Int32) &&& 31)) = (own_hi u2))]
    exact kt
   have f509 : Old Z n0 h493 := ((f463.keep K464 (allS ge3 (allS qj436 all0))).ext E493)
   obtain ⟨cq510, kq510, qa510, qb510, qc510⟩ := isOf hZ e493 xE493
   obtain ⟨_, _, ⟨T510, L510, k510, n510⟩, -, X510, ⟨Lc510, hQ510, l510, y510, z510⟩, st510⟩ := X493.virtualBack hx (y := own_m15) (z := own_m15) hown (mvT hZ (H 112 rfl)) (mvT hZ (H 113 rfl)) (notFace_of_selects (args := #[]) (mvT hZ (H 115 rfl))) (mvT hZ (H 115 rfl)) (mvT hZ (H 114 rfl)) (by decide) (backOf (W := 1) (rmchA l Z a0 hw [] b493 (own_hi u2) wC wF v493 kv493 (16 : Int32) [(.int 48), (.int 49), (.int 50), (.int 51), (.int 52), (.int 53), (.int 54), (.int 55), (.int 56), (.int 57), (.int 65), (.int 66), (.int 67), (.int 68), (.int 69), (.int 70)] (.int 0) (own_hexb (own_hi u2)) h493 n0 zs494 f509 qC qF xE493 xC493 xF493 xV493 (own_ix16 (own_hiR _)).1 (own_ix16 (own_hiR _)).2 (own_hexT (own_hiR _))) hZ (H 116 rfl) (H 21 rfl) (by decide) (by decide)) qa510 qc510 (g := (own_top pre508)) rfl (by rw [hml]; rfl) (Steps.refl _) (argsL := [(.int (own_hi u2))]) (rest := [(.ref b1)]) (lenOf pd_19 rfl) rfl (by show 2 * 0 + _ ≤ _; exact Nat.le_of_eq rfl) (hb hby d1_131) (fun _ _ => ⟨rfl, e493, (by decide : 15 + 0 ≤ _), (by decide : 337 + 0 ≤ _)⟩)
   dsimp only [Pt.U, Pt.locs, Pt.cells, Pt.slots] at X510 l510 y510 z510 st510 hQ510
   subst l510 y510 z510
   obtain ⟨rfl, Nq510, eq510⟩ := hQ510
   have N510 := Fr.app N464 Nq510
   have pre511 : own_Go p e below S0 (T510.setTop (mkF m 134 #[vR a1, vR b1, vR a1, vI 3, vI 2, vI u2, vI (own_cb u2)] [(.int (own_lc (own_hexb (own_hi u2)))), (.ref b1)])) := by
    intro t kt
    refine pre508 t ?_
    refine st510.trans ?_
    show Steps p.tables e below (T510.setTop (mkF m 134 #[vR a1, vR b1, vR a1, vI 3, vI 2, vI u2, vI (own_cb u2)] [(.int (own_lc (own_hexb (own_hi u2)))), (.ref b1)])) _
    exact kt
   have f513 : Arv Z h493 a1 k1 .byte (3 : Int32) [(.int u0), (.int u1), (.int u2)] (.int 0) := ((f449.keep K464 (ninS ne2 (ninS qj445 nin0))).ext E493)
   have lt512 : a1 < h493.size := f513.lt
   have f515 : Exa Z h493 b1 "java/lang/StringBuilder" := (g475.ext E493)
   have lt514 : b1 < h493.size := f515.lt
   have f517 : Exa Z h493 b19 "[B" := ((f460.keep K464).ext E493)
   have lt516 : b19 < h493.size := f517.lt
   have f519 : Exa Z h493 va1 "[B" := ((f462.keep K464).ext E493)
   have lt518 : va1 < h493.size := f519.lt
   have f521 : Exa Z h493 va2 "[B" := (f492.ext E493)
   have lt520 : va2 < h493.size := f521.lt
   have lt522 : b493 < h493.size := xE493.lt
   have lt523 : v493 < h493.size := xV493.lt
   have f524 : Fld Z h493 b1 "java/lang/AbstractStringBuilder" "value" "[B" (.ref vb465) := (g476.ext E493)
   have f525 : Fld Z h493 b1 "java/lang/AbstractStringBuilder" "coder" "B" (.int 0) := (g477.ext E493)
   have f526 : Fld Z h493 b1 "java/lang/AbstractStringBuilder" "count" "I" (.int (own_len (((([] : List Int32) ++ (own_e1 u0)) ++ (own_e1 u1)) ++ [(37 : Int32)]))) := (g478.ext E493)
   have f527 : Exa Z h493 vb465 "[B" := (g472.ext E493)
   have f528 : Arv Z h493 vb465 kb466 .byte z2467 vs2468 (.int 0) := (g473.ext E493)
   obtain ⟨cq529, kq529, qa529, qb529, qc529⟩ := isOf hZ eq510 f515
   obtain ⟨_, _, ⟨T529, L529, k529, n529⟩, -, X529, ⟨Lc529, hQ529, l529, y529, z529⟩, st529⟩ := X510.virtualBack hx (y := own_m21) (z := own_m21) hown (mvT hZ (H 90 rfl)) (mvT hZ (H 91 rfl)) (notFace_of_selects (args := #[]) (mvT hZ (H 93 rfl))) (mvT hZ (H 93 rfl)) (mvT hZ (H 92 rfl)) (by decide) (backOf (W := 0) (rmsaA3 l Z a0 hw [] b1 (own_lc (own_hexb (own_hi u2))) wC vb465 kb466 z2467 vs2468 (((([] : List Int32) ++ (own_e1 u0)) ++ (own_e1 u1)) ++ [(37 : Int32)]) h493 n0 zs494 f509 qC f515 f524 f525 f526 f527 f528 ge3 g470 g471 g474 (by have q0 := own_e1L u0; have q1 := own_e1L u1; simp only [List.length_append, List.length_cons, List.length_nil]; omega) (own_canR (own_lcR _).2)) hZ (H 94 rfl) (H 7 rfl) (by decide) (by decide)) qa529 qc529 (g := (own_top pre511)) rfl (by rw [hml]; rfl) (Steps.refl _) (argsL := [(.int (own_lc (own_hexb (own_hi u2))))]) (rest := []) (lenOf pd_18 rfl) rfl (by show 2 * 0 + _ ≤ _; exact Nat.le_of_eq rfl) (hb hby d1_134) (fun _ _ => ⟨rfl, eq510, (by decide : 15 + 1 ≤ _), (by decide : 337 + 18 ≤ _)⟩)
   dsimp only [Pt.U, Pt.locs, Pt.cells, Pt.slots] at X529 l529 y529 z529 st529 hQ529
   subst l529 y529 z529
   obtain ⟨vb530, kb531, z2532, vs2533, rfl, Nq529, K529, g534, g535, g536, g537, g538, g539, g540, g541, g542, g543⟩ := hQ529
   have N529 := Fr.app N510 Nq529
   have zs544 : n0 ≤ T529.heap.size := Nat.le_trans zs494 K529.1
   have kc545 : Keep h0 T529.heap [] := kc495.trans K529 (allS (Or.inr sz5) (allS (Or.inr sz488) all0))
   have kc546 : Keep hj246 T529.heap [b1, va2] := kc496.trans K529 (allS (Or.inl (List.mem_of_getElem? (i := 0) rfl)) (allS sd489 all0))
   have hk547 : _ ≤ T529.heap.size := Nat.le_trans hk493 K529.1
   have ch548 : CHr Z own_EL s.vm h0 T493.vm T529.heap := ch497.trans (CHr.keep K529 (allS sf498 (allS sf500 all0)) ch497.1)
   have sf549 : Safe Z own_EL T493.vm T529.heap b1 := Safe.keep K529 (allS sf498 (allS sf500 all0)) ch497.1 sf498
   have sf550 : Safe Z own_EL T493.vm T529.heap va2 := Safe.keep K529 (allS sf498 (allS sf500 all0)) ch497.1 sf499
   have sf551 : Safe Z own_EL T493.vm T529.heap vb465 := Safe.keep K529 (allS sf498 (allS sf500 all0)) ch497.1 sf500
   have ne552 : a1 ≠ vb530 := by
    rcases g534 with q | q
    ·rw [q]; exact ne486
    ·exact Nat.ne_of_lt (Nat.lt_of_lt_of_le lt512 q)
   have ne553 : b1 ≠ vb530 := by
    rcases g534 with q | q
    ·rw [q]; exact g471
    ·exact Nat.ne_of_lt (Nat.lt_of_lt_of_le lt514 q)
   have ne554 : b493 ≠ vb530 := by
    rcases g534 with q | q
    ·rw [q]; exact (Ne.symm ne505)
    ·exact Nat.ne_of_lt (Nat.lt_of_lt_of_le lt522 q)
   have ne555 : v493 ≠ vb530 := by
    rcases g534 with q | q
    ·rw [q]; exact (Ne.symm ne506)
    ·exact Nat.ne_of_lt (Nat.lt_of_lt_of_le lt523 q)
   have sz556 : h0.size ≤ vb530 := by
    rcases g534 with q | q
    ·rw [q]; exact sz488
    ·exact Nat.le_trans kc495.1 q
   have sd557 : vb530 ∈ [b1, va2] ∨ hj246.size ≤ vb530 := by
    rcases g534 with q | q
    ·rw [q]; exact sd489
    ·exact Or.inr (Nat.le_trans kc496.1 q)
   have sf558 : Safe Z own_EL T493.vm T529.heap vb530 := by
    rcases g534 with q | q
    ·rw [q]; exact sf551
    ·exact Safe.keep K529 (allS sf498 (allS sf500 all0)) ch497.1 (Safe.new q)
   have pre559 : own_Go p e below S0 (T529.setTop (mkF m 137 #[vR a1, vR b1, vR a1, vI 3, vI 2, vI u2, vI (own_cb u2)] [(.ref b1)])) := by
    intro t kt
    refine pre511 t ?_
    refine st529.trans ?_
    show Steps p.tables e below (T529.setTop (mkF m 137 #[vR a1, vR b1, vR a1, vI 3, vI 2, vI u2, vI (own_cb u2)] [(.ref b1)])) _
    exact kt
   have pre560 : own_Go p e below S0 (T529.setTop (mkF m 144 #[vR a1, vR b1, vR a1, vI 3, vI 2, vI u2, vI (own_cb u2)] [(.int ((own_cb u2) &&& (15 : Int32))), (.ref b493), (.ref b1)])) := by
    intro t kt
    refine pre559 t ?_
    refine ldcAgain (s := s) (vm0 := T493.vm) X529 hx hZ hown (H 109 rfl) L493 (g := (own_top pre559)) rfl (hb hby d1_137) _ ?_
    refine XS.iload X529.here hx rfl (hb hby d1_139) rfl ?_
    refine XS.bipush X529.here hx rfl (hb hby d1_141) ?_
    refine XS.iand X529.here hx rfl (hb hby d1_143) rfl ?_
    exact kt
   have pre561 : own_Go p e below S0 (T529.setTop (mkF m 144 #[vR a1, vR b1, vR a1, vI 3, vI 2, vI u2, vI (own_cb u2)] [(.int (own_lo u2)), (.ref b493), (.ref b1)])) := by
    intro t kt
    refine pre560 t ?_
    rw [(rfl : ((own_cb u2) &&& (15 : Int32)) = (own_lo u2))]
    exact kt
   have f562 : Old Z n0 T529.heap := (f509.keep K529 (allS ge3 (allS g470 all0)))
   have f563 : Exa Z T529.heap b493 "java/lang/String" := (xE493.keep K529)
   have f564 : Fld Z T529.heap b493 "java/lang/String" "coder" "B" (.int 0) := (xC493.keep K529 (ninS (Ne.symm ne501) (ninS (Ne.symm ne505) nin0)))
   have f565 : Fld Z T529.heap b493 "java/lang/String" "value" "[B" (.ref v493) := (xF493.keep K529 (ninS (Ne.symm ne501) (ninS (Ne.symm ne505) nin0)))
   have f566 : Arv Z T529.heap v493 kv493 .byte (16 : Int32) [(.int 48), (.int 49), (.int 50), (.int 51), (.int 52), (.int 53), (.int 54), (.int 55), (.int 56), (.int 57), (.int 65), (.int 66), (.int 67), (.int 68), (.int 69), (.int 70)] (.int 0) := (xV493.keep K529 (ninS (Ne.symm ne502) (ninS (Ne.symm ne506) nin0)))
   obtain ⟨cq567, kq567, qa567, qb567, qc567⟩ := isOf hZ rfl f563
   obtain ⟨_, _, ⟨T567, L567, k567, n567⟩, -, X567, ⟨Lc567, hQ567, l567, y567, z567⟩, st567⟩ := X529.virtualBack hx (y := own_m15) (z := own_m15) hown (mvT hZ (H 112 rfl)) (mvT hZ (H 113 rfl)) (notFace_of_selects (args := #[]) (mvT hZ (H 115 rfl))) (mvT hZ (H 115 rfl)) (mvT hZ (H 114 rfl)) (by decide) (backOf (W := 1) (rmchA l Z a0 hw [] b493 (own_lo u2) wC wF v493 kv493 (16 : Int32) [(.int 48), (.int 49), (.int 50), (.int 51), (.int 52), (.int 53), (.int 54), (.int 55), (.int 56), (.int 57), (.int 65), (.int 66), (.int 67), (.int 68), (.int 69), (.int 70)] (.int 0) (own_hexb (own_lo u2)) T529.heap n0 zs544 f562 qC qF f563 f564 f565 f566 (own_ix16 (own_loR _)).1 (own_ix16 (own_loR _)).2 (own_hexT (own_loR _))) hZ (H 116 rfl) (H 21 rfl) (by decide) (by decide)) qa567 qc567 (g := (own_top pre561)) rfl (by rw [hml]; rfl) (Steps.refl _) (argsL := [(.int (own_lo u2))]) (rest := [(.ref b1)]) (lenOf pd_19 rfl) rfl (by show 2 * 0 + _ ≤ _; exact Nat.le_of_eq rfl) (hb hby d1_144) (fun _ _ => ⟨rfl, rfl, (by decide : 16 + 0 ≤ _), (by decide : 355 + 0 ≤ _)⟩)
   dsimp only [Pt.U, Pt.locs, Pt.cells, Pt.slots] at X567 l567 y567 z567 st567 hQ567
   subst l567 y567 z567
   obtain ⟨rfl, Nq567, eq567⟩ := hQ567
   have N567 := Fr.app N529 Nq567
   have pre568 : own_Go p e below S0 (T567.setTop (mkF m 147 #[vR a1, vR b1, vR a1, vI 3, vI 2, vI u2, vI (own_cb u2)] [(.int (own_lc (own_hexb (own_lo u2)))), (.ref b1)])) := by
    intro t kt
    refine pre561 t ?_
    refine st567.trans ?_
    show Steps p.tables e below (T567.setTop (mkF m 147 #[vR a1, vR b1, vR a1, vI 3, vI 2, vI u2, vI (own_cb u2)] [(.int (own_lc (own_hexb (own_lo u2)))), (.ref b1)])) _
    exact kt
   have f570 : Arv Z T529.heap a1 k1 .byte (3 : Int32) [(.int u0), (.int u1), (.int u2)] (.int 0) := (f513.keep K529 (ninS ne2 (ninS ne486 nin0)))
   have lt569 : a1 < T529.heap.size := f570.lt
   have lt571 : b1 < T529.heap.size := g540.lt
   have f573 : Exa Z T529.heap b19 "[B" := (f517.keep K529)
   have lt572 : b19 < T529.heap.size := f573.lt
   have f575 : Exa Z T529.heap va1 "[B" := (f519.keep K529)
   have lt574 : va1 < T529.heap.size := f575.lt
   have f577 : Exa Z T529.heap va2 "[B" := (f521.keep K529)
   have lt576 : va2 < T529.heap.size := f577.lt
   have f579 : Exa Z T529.heap vb465 "[B" := (f527.keep K529)
   have lt578 : vb465 < T529.heap.size := f579.lt
   have lt580 : b493 < T529.heap.size := f563.lt
   have lt581 : v493 < T529.heap.size := f566.lt
   obtain ⟨cq582, kq582, qa582, qb582, qc582⟩ := isOf hZ eq567 g540
   obtain ⟨_, _, ⟨T582, L582, k582, n582⟩, -, X582, ⟨Lc582, hQ582, l582, y582, z582⟩, st582⟩ := X567.virtualBack hx (y := own_m21) (z := own_m21) hown (mvT hZ (H 90 rfl)) (mvT hZ (H 91 rfl)) (notFace_of_selects (args := #[]) (mvT hZ (H 93 rfl))) (mvT hZ (H 93 rfl)) (mvT hZ (H 92 rfl)) (by decide) (backOf (W := 0) (rmsaA3 l Z a0 hw [] b1 (own_lc (own_hexb (own_lo u2))) wC vb530 kb531 z2532 vs2533 ((((([] : List Int32) ++ (own_e1 u0)) ++ (own_e1 u1)) ++ [(37 : Int32)]) ++ [(own_lc (own_hexb (own_hi u2)))]) T529.heap n0 zs544 f562 qC g540 g541 g542 g543 g537 g538 ge3 g535 g536 g539 (by have q0 := own_e1L u0; have q1 := own_e1L u1; simp only [List.length_append, List.length_cons, List.length_nil]; omega) (own_canR (own_lcR _).2)) hZ (H 94 rfl) (H 7 rfl) (by decide) (by decide)) qa582 qc582 (g := (own_top pre568)) rfl (by rw [hml]; rfl) (Steps.refl _) (argsL := [(.int (own_lc (own_hexb (own_lo u2))))]) (rest := []) (lenOf pd_18 rfl) rfl (by show 2 * 0 + _ ≤ _; exact Nat.le_of_eq rfl) (hb hby d1_147) (fun _ _ => ⟨rfl, eq567, (by decide : 16 + 1 ≤ _), (by decide : 355 + 18 ≤ _)⟩)
   dsimp only [Pt.U, Pt.locs, Pt.cells, Pt.slots] at X582 l582 y582 z582 st582 hQ582
   subst l582 y582 z582
   obtain ⟨vb583, kb584, z2585, vs2586, rfl, Nq582, K582, g587, g588, g589, g590, g591, g592, g593, g594, g595, g596⟩ := hQ582
   have N582 := Fr.app N567 Nq582
   have zs597 : n0 ≤ T582.heap.size := Nat.le_trans zs544 K582.1
   have kc598 : Keep h0 T582.heap [] := kc545.trans K582 (allS (Or.inr sz5) (allS (Or.inr sz556) all0))
   have kc599 : Keep hj246 T582.heap [b1, va2] := kc546.trans K582 (allS (Or.inl (List.mem_of_getElem? (i := 0) rfl)) (allS sd557 all0))
   have hk600 : _ ≤ T582.heap.size := Nat.le_trans hk547 K582.1
   have ch601 : CHr Z own_EL s.vm h0 T493.vm T582.heap := ch548.trans (CHr.keep K582 (allS sf549 (allS sf558 all0)) ch548.1)
   have sf602 : Safe Z own_EL T493.vm T582.heap b1 := Safe.keep K582 (allS sf549 (allS sf558 all0)) ch548.1 sf549
   have sf603 : Safe Z own_EL T493.vm T582.heap va2 := Safe.keep K582 (allS sf549 (allS sf558 all0)) ch548.1 sf550
   have sf604 : Safe Z own_EL T493.vm T582.heap vb465 := Safe.keep K582 (allS sf549 (allS sf558 all0)) ch548.1 sf551
   have sf605 : Safe Z own_EL T493.vm T582.heap vb530 := Safe.keep K582 (allS sf549 (allS sf558 all0)) ch548.1 sf558
   have ne606 : a1 ≠ vb583 := by
    rcases g587 with q | q
    ·rw [q]; exact ne552
    ·exact Nat.ne_of_lt (Nat.lt_of_lt_of_le lt569 q)
   have ne607 : b1 ≠ vb583 := by
    rcases g587 with q | q
    ·rw [q]; exact g536
    ·exact Nat.ne_of_lt (Nat.lt_of_lt_of_le lt571 q)
   have ne608 : b493 ≠ vb583 := by
    rcases g587 with q | q
    ·rw [q]; exact ne554
    ·exact Nat.ne_of_lt (Nat.lt_of_lt_of_le lt580 q)
   have ne609 : v493 ≠ vb583 := by
    rcases g587 with q | q
    ·rw [q]; exact ne555
    ·exact Nat.ne_of_lt (Nat.lt_of_lt_of_le lt581 q)
   have sz610 : h0.size ≤ vb583 := by
    rcases g587 with q | q
    ·rw [q]; exact sz556
    ·exact Nat.le_trans kc545.1 q
   have sd611 : vb583 ∈ [b1, va2] ∨ hj246.size ≤ vb583 := by
    rcases g587 with q | q
    ·rw [q]; exact sd557
    ·exact Or.inr (Nat.le_trans kc546.1 q)
   have sf612 : Safe Z own_EL T493.vm T582.heap vb583 := by
    rcases g587 with q | q
    ·rw [q]; exact sf605
    ·exact Safe.keep K582 (allS sf549 (allS sf558 all0)) ch548.1 (Safe.new q)
   have pre613 : own_Go p e below S0 (T582.setTop (mkF m 151 #[vR a1, vR b1, vR a1, vI 3, vI 2, vI u2, vI (own_cb u2)] [])) := by
    intro t kt
    refine pre568 t ?_
    refine st582.trans ?_
    show Steps p.tables e below (T582.setTop (mkF m 150 #[vR a1, vR b1, vR a1, vI 3, vI 2, vI u2, vI (own_cb u2)] [(.ref b1)])) _
    refine XS.pop X582.here hx rfl (hb hby d1_150) rfl rfl ?_
    exact kt
   exact ⟨vb583, kb584, z2585, vs2586, T582, _, _, T493.vm, _, (Stand.mono X582 (by decide) (by decide)), N582, rfl, kc599, hS493, hk600, hZ, hown, ch601, sf602, sf612, ((show (((((([] : List Int32) ++ (own_e1 u0)) ++ (own_e1 u1)) ++ [(37 : Int32)]) ++ [(own_lc (own_hexb (own_hi u2)))]) ++ [(own_lc (own_hexb (own_lo u2)))]) = (((([] : List Int32) ++ (own_e1 u0)) ++ (own_e1 u1)) ++ (own_e1 u2)) from by rw [show own_e1 u2 = [37, own_lc (own_hexb (own_hi u2)), own_lc (own_hexb (own_lo u2))] from by rw [own_e1, if_pos hu453]] <;> simp) ▸ g592), g588, g589, g590, g591, g593, g594, g595, ((show (((((([] : List Int32) ++ (own_e1 u0)) ++ (own_e1 u1)) ++ [(37 : Int32)]) ++ [(own_lc (own_hexb (own_hi u2)))]) ++ [(own_lc (own_hexb (own_lo u2)))]) = (((([] : List Int32) ++ (own_e1 u0)) ++ (own_e1 u1)) ++ (own_e1 u2)) from by rw [show own_e1 u2 = [37, own_lc (own_hexb (own_hi u2)), own_lc (own_hexb (own_lo u2))] from by rw [own_e1, if_pos hu453]] <;> simp) ▸ g596), sz610, ne606, pre613⟩
  ·have pre614 : own_Go p e below S0 (Tj246.setTop (mkF m 109 #[vR a1, vR b1, vR a1, vI 3, vI 2, vI u2, vI (own_cb u2)] [])) := fun t k => pre452 t ((own_test Xj246 hx hby _ _ _ _ _ _ _).2 hu453 t k)
   have pre615 : own_Go p e below S0 (Tj246.setTop (mkF m 112 #[vR a1, vR b1, vR a1, vI 3, vI 2, vI u2, vI (own_cb u2)] [(.int (own_cb u2)), (.ref b1)])) := by
    intro t kt
    refine pre614 t ?_
    refine XS.aloadN Xj246.here hx rfl (hb hby d1_109) rfl rfl ?_
    refine XS.iload Xj246.here hx rfl (hb hby d1_110) rfl ?_
    exact kt
   have lt616 : a1 < hj246.size := f449.lt
   have lt617 : b1 < hj246.size := qj440.lt
   have f619 : Exa Z hj246 b19 "[B" := ((g22.keep Kj48).keep Kj246)
   have lt618 : b19 < hj246.size := f619.lt
   have f621 : Exa Z hj246 va1 "[B" := (qj230.keep Kj246)
   have lt620 : va1 < hj246.size := f621.lt
   have f622 : Old Z n0 hj246 := (((f17.keep K18 (allS ge3 all0)).keep Kj48 (allS ge3 (allS ge30 all0))).keep Kj246 (allS ge3 (allS qj228 all0)))
   obtain ⟨cq623, kq623, qa623, qb623, qc623⟩ := isOf hZ ej246 qj440
   obtain ⟨_, _, ⟨T623, L623, k623, n623⟩, -, X623, ⟨Lc623, hQ623, l623, y623, z623⟩, st623⟩ := Xj246.virtualBack hx (y := own_m21) (z := own_m21) hown (mvT hZ (H 90 rfl)) (mvT hZ (H 91 rfl)) (notFace_of_selects (args := #[]) (mvT hZ (H 93 rfl))) (mvT hZ (H 93 rfl)) (mvT hZ (H 92 rfl)) (by decide) (backOf (W := 0) (rmsaA3 l Z a0 hw [] b1 (own_cb u2) wC va2 kv2 zv2 lv2 ((([] : List Int32) ++ (own_e1 u0)) ++ (own_e1 u1)) hj246 n0 zs446 f622 qC qj440 qj441 qj442 qj443 qj438 qj439 ge3 qj436 qj437 pj435 (by have q0 := own_e1L u0; have q1 := own_e1L u1; simp only [List.length_append, List.length_cons, List.length_nil]; omega) (own_canR (own_cbR _).2)) hZ (H 94 rfl) (H 7 rfl) (by decide) (by decide)) qa623 qc623 (g := (own_top pre615)) rfl (by rw [hml]; rfl) (Steps.refl _) (argsL := [(.int (own_cb u2))]) (rest := []) (lenOf pd_18 rfl) rfl (by show 2 * 0 + _ ≤ _; exact Nat.le_of_eq rfl) (hb hby d1_112) (fun _ _ => ⟨rfl, ej246, (by decide : 12 + 1 ≤ _), (by decide : 251 + 18 ≤ _)⟩)
   dsimp only [Pt.U, Pt.locs, Pt.cells, Pt.slots] at X623 l623 y623 z623 st623 hQ623
   subst l623 y623 z623
   obtain ⟨vb624, kb625, z2626, vs2627, rfl, Nq623, K623, g628, g629, g630, g631, g632, g633, g634, g635, g636, g637⟩ := hQ623
   have N623 := Fr.app Nj246 Nq623
   have zs638 : n0 ≤ T623.heap.size := Nat.le_trans zs446 K623.1
   have kc639 : Keep h0 T623.heap [] := kc447.trans K623 (allS (Or.inr sz5) (allS (Or.inr qj444) all0))
   have kc640 : Keep hj246 T623.heap [b1, va2] := kjj454.trans K623 (allS (Or.inl (List.mem_of_getElem? (i := 0) rfl)) (allS (Or.inl (List.mem_of_getElem? (i := 1) rfl)) all0))
   have hk641 : _ ≤ T623.heap.size := Nat.le_trans hkj246 K623.1
   have ch642 : CHr Z own_EL s.vm h0 vmj246 T623.heap := chj246.trans (CHr.keep K623 (allS sfj2460 (allS sfj2461 all0)) chj246.1)
   have sf643 : Safe Z own_EL vmj246 T623.heap b1 := Safe.keep K623 (allS sfj2460 (allS sfj2461 all0)) chj246.1 sfj2460
   have sf644 : Safe Z own_EL vmj246 T623.heap va2 := Safe.keep K623 (allS sfj2460 (allS sfj2461 all0)) chj246.1 sfj2461
   have ne645 : a1 ≠ vb624 := by
    rcases g628 with q | q
    ·rw [q]; exact qj445
    ·exact Nat.ne_of_lt (Nat.lt_of_lt_of_le lt616 q)
   have ne646 : b1 ≠ vb624 := by
    rcases g628 with q | q
    ·rw [q]; exact qj437
    ·exact Nat.ne_of_lt (Nat.lt_of_lt_of_le lt617 q)
   have sz647 : h0.size ≤ vb624 := by
    rcases g628 with q | q
    ·rw [q]; exact qj444
    ·exact Nat.le_trans kc447.1 q
   have sd648 : vb624 ∈ [b1, va2] ∨ hj246.size ≤ vb624 := by
    rcases g628 with q | q
    ·rw [q]; exact Or.inl (List.mem_of_getElem? (i := 1) rfl)
    ·exact Or.inr (Nat.le_trans kjj454.1 q)
   have sf649 : Safe Z own_EL vmj246 T623.heap vb624 := by
    rcases g628 with q | q
    ·rw [q]; exact sf644
    ·exact Safe.keep K623 (allS sfj2460 (allS sfj2461 all0)) chj246.1 (Safe.new q)
   have pre650 : own_Go p e below S0 (T623.setTop (mkF m 151 #[vR a1, vR b1, vR a1, vI 3, vI 2, vI u2, vI (own_cb u2)] [])) := by
    intro t kt
    refine pre615 t ?_
    refine st623.trans ?_
    show Steps p.tables e below (T623.setTop (mkF m 115 #[vR a1, vR b1, vR a1, vI 3, vI 2, vI u2, vI (own_cb u2)] [(.ref b1)])) _
    refine XS.pop X623.here hx rfl (hb hby d1_115) rfl rfl ?_
    refine XS.goto X623.here hx rfl (pc0 := 116) (pc' := 151) rfl (hb hby d1_116) (by decide) (by decide) ?_
    exact kt
   exact ⟨vb624, kb625, z2626, vs2627, T623, _, _, vmj246, _, (Stand.mono X623 (by decide) (by decide)), N623, rfl, kc640, hSj246, hk641, hZ, hown, ch642, sf643, sf649, ((show (((([] : List Int32) ++ (own_e1 u0)) ++ (own_e1 u1)) ++ [(own_cb u2)]) = (((([] : List Int32) ++ (own_e1 u0)) ++ (own_e1 u1)) ++ (own_e1 u2)) from by rw [show own_e1 u2 = [own_cb u2] from by rw [own_e1, if_neg hu453]] <;> simp) ▸ g633), g629, g630, g631, g632, g634, g635, g636, ((show (((([] : List Int32) ++ (own_e1 u0)) ++ (own_e1 u1)) ++ [(own_cb u2)]) = (((([] : List Int32) ++ (own_e1 u0)) ++ (own_e1 u1)) ++ (own_e1 u2)) from by rw [show own_e1 u2 = [own_cb u2] from by rw [own_e1, if_neg hu453]] <;> simp) ▸ g637), sz647, ne645, pre650⟩
 have zs662 : n0 ≤ hj454.size := Nat.le_trans zs446 Kj454.1
 have kc663 : Keep h0 hj454 [] := kc447.trans Kj454 (allS (Or.inr sz5) (allS (Or.inr qj444) all0))
 have pre664 : own_Go p e below S0 (Tj454.setTop (mkF m 158 #[vR a1, vR b1, vR a1, vI 3, vI 3, vI u2, vI (own_cb u2)] [(.ref b1)])) := by
  intro t kt
  refine prej454 t ?_
  refine XS.iinc Xj454.here hx rfl (hb hby d1_151) rfl (l' := #[vR a1, vR b1, vR a1, vI 3, vI 3, vI u2, vI (own_cb u2)]) rfl ?_
  refine XS.goto Xj454.here hx rfl (pc0 := 154) (pc' := 18) rfl (hb hby d1_154) (by decide) (by decide) ?_
  refine XS.iload Xj454.here hx rfl (hb hby d1_18) rfl ?_
  refine XS.iloadN Xj454.here hx rfl (hb hby d1_20) rfl ?_
  refine XS.icmpYes Xj454.here hx rfl (pc0 := 21) (pc' := 157) rfl (hb hby d1_21) rfl (flt (by decide : ¬ ((3 : Int32) < (3 : Int32)))).2.1 (by decide) (by decide) ?_
  refine XS.aloadN Xj454.here hx rfl (hb hby d1_157) rfl rfl ?_
  exact kt
 have f665 := (((f17.keep K18 (allS ge3 all0)).keep Kj48 (allS ge3 (allS ge30 all0))).keep Kj246 (allS ge3 (allS qj228 all0)))
 have f666 : Old Z n0 hj454 := (f665.keep Kj454 (allS ge3 (allS qj436 all0)))
 obtain ⟨cq667, kq667, qa667, qb667, qc667⟩ := isOf hZ ej454 qj656
 obtain ⟨_, _, ⟨T667, L667, k667, n667⟩, -, X667, ⟨Lc667, hQ667, l667, y667, z667⟩, st667⟩ := Xj454.virtualBack hx (y := own_m23) (z := own_m23) hown (mvT hZ (H 26 rfl)) (mvT hZ (H 27 rfl)) (notFace_of_selects (args := #[]) (mvT hZ (H 29 rfl))) (mvT hZ (H 29 rfl)) (mvT hZ (H 28 rfl)) (by decide) (backOf (W := 0) (rmts l Z a0 hw [] b1 wC va3 kv3 zv3 lv3 (((([] : List Int32) ++ (own_e1 u0)) ++ (own_e1 u1)) ++ (own_e1 u2)) hj454 n0 zs662 f666 qC qj656 qj657 qj658 qj659 qj654 qj655 (own_fitC3 pj651 (by have q0 := own_e1L u0; have q1 := own_e1L u1; have q2 := own_e1L u2; simp only [List.length_append, List.length_cons, List.length_nil]; omega))) hZ (H 30 rfl) (H 7 rfl) (by decide) (by decide)) qa667 qc667 (g := (own_top pre664)) rfl (by rw [hml]; rfl) (Steps.refl _) (argsL := []) (rest := []) (lenOf pd_17 rfl) rfl (by show 2 * 0 + _ ≤ _; exact Nat.le_of_eq rfl) (hb hby d1_158) (fun _ _ => ⟨rfl, ej454, (by decide : 17 + 2 ≤ _), (by decide : 373 + 13 ≤ _)⟩)
 dsimp only [Pt.U, Pt.locs, Pt.cells, Pt.slots] at X667 l667 y667 z667 st667 hQ667
 subst l667 y667 z667
 obtain ⟨b668, vb669, kb670, rfl, Nq667, K667, g671, g672, g673⟩ := hQ667
 have N667 := Fr.app Nj454 Nq667
 have f674 : Arv Z hj454 a1 k1 .byte (3 : Int32) [(.int u0), (.int u1), (.int u2)] (.int 0) := (f449.keep Kj454 (ninS ne2 (ninS qj445 nin0)))
 have ne675 : a1 ≠ b668 := Nat.ne_of_lt (Nat.lt_of_lt_of_le f674.lt g671)
 have ne676 : b1 ≠ b668 := Nat.ne_of_lt (Nat.lt_of_lt_of_le qj656.lt g671)
 have f677 : Exa Z hj454 b19 "[B" := (((g22.keep Kj48).keep Kj246).keep Kj454)
 have ne678 : b19 ≠ b668 := Nat.ne_of_lt (Nat.lt_of_lt_of_le f677.lt g671)
 have f679 : Exa Z hj454 va1 "[B" := ((qj230.keep Kj246).keep Kj454)
 have ne680 : va1 ≠ b668 := Nat.ne_of_lt (Nat.lt_of_lt_of_le f679.lt g671)
 have f681 : Exa Z hj454 va2 "[B" := (qj438.keep Kj454)
 have ne682 : va2 ≠ b668 := Nat.ne_of_lt (Nat.lt_of_lt_of_le f681.lt g671)
 have ne683 : va3 ≠ b668 := Nat.ne_of_lt (Nat.lt_of_lt_of_le qj654.lt g671)
 have ge684 : n0 ≤ b668 := Nat.le_trans zs662 g671
 have sf685 : Safe Z own_EL vmj454 hj454 b668 := Safe.new g671
 have sz686 : h0.size ≤ b668 := Nat.le_trans kc663.1 g671
 have ne687 : a1 ≠ vb669 := Nat.ne_of_lt (Nat.lt_of_lt_of_le f674.lt g672)
 have ne688 : b1 ≠ vb669 := Nat.ne_of_lt (Nat.lt_of_lt_of_le qj656.lt g672)
 have ne689 : b19 ≠ vb669 := Nat.ne_of_lt (Nat.lt_of_lt_of_le f677.lt g672)
 have ne690 : va1 ≠ vb669 := Nat.ne_of_lt (Nat.lt_of_lt_of_le f679.lt g672)
 have ne691 : va2 ≠ vb669 := Nat.ne_of_lt (Nat.lt_of_lt_of_le f681.lt g672)
 have ne692 : va3 ≠ vb669 := Nat.ne_of_lt (Nat.lt_of_lt_of_le qj654.lt g672)
 have ge693 : n0 ≤ vb669 := Nat.le_trans zs662 g672
 have sf694 : Safe Z own_EL vmj454 hj454 vb669 := Safe.new g672
 have sz695 : h0.size ≤ vb669 := Nat.le_trans kc663.1 g672
 have zs696 : n0 ≤ T667.heap.size := Nat.le_trans zs662 K667.1
 have kc697 : Keep h0 T667.heap [] := kc663.trans K667 all0
 have hk698 : _ ≤ T667.heap.size := Nat.le_trans hkj454 K667.1
 have ch699 : CHr Z own_EL s.vm h0 vmj454 T667.heap := chj454.trans (CHr.keep K667 all0 chj454.1)
 have sf700 : Safe Z own_EL vmj454 T667.heap b1 := Safe.keep K667 all0 chj454.1 sfj4540
 have sf701 : Safe Z own_EL vmj454 T667.heap va3 := Safe.keep K667 all0 chj454.1 sfj4541
 have sf702 : Safe Z own_EL vmj454 T667.heap b668 := Safe.keep K667 all0 chj454.1 sf685
 have sf703 : Safe Z own_EL vmj454 T667.heap vb669 := Safe.keep K667 all0 chj454.1 sf694
 have pre704 : own_Go p e below S0 (T667.setTop (mkF m 161 #[vR a1, vR b1, vR a1, vI 3, vI 3, vI u2, vI (own_cb u2)] [(.ref b668)])) := by
  intro t kt
  refine pre664 t ?_
  refine st667.trans ?_
  show Steps p.tables e below (T667.setTop (mkF m 161 #[vR a1, vR b1, vR a1, vI 3, vI 3, vI u2, vI (own_cb u2)] [(.ref b668)])) _
  exact kt
 obtain ⟨fs, hr, hrun, hended, hRW⟩ := Stand.leaveW (s := s) (vm₁ := vmj454) X667 hSj454 hk698 (v := some (.ref b668)) (fun h => by rw [Bd.returns] at h; cases h)
 refine ⟨_, _, fin _ (pre704 _ ?_), hrun, hended, _, _, rfl, ?_, (by rw [hh]; show CHr Z own_EL s.vm h0 T667.vm T667.heap; exact ch699.trans (CHv.at (s := s) (vm0 := vmj454) X667 hZ (own_EW a0 Z hw) ch699.1)), own_wideMono hRW (by decide) (by decide)⟩
 ·jvm_step X667.here [X667.here.top, hx, (hb hby d1_161), X667.method', Bd.returns, Value.isRef, FieldType.isReference]
  first | (intro acts; rw [hr _ acts rfl rfl rfl]) | rw [hr _ _ rfl rfl rfl]
  exact Steps.refl _
 ·show Qenc3 Z a1 wC wF k1 u0 u1 u2 h0 n0 _ T667.heap _
  exact ⟨b668, vb669, kb670, rfl, N667, kc697, sz686, ((show (((([] : List Int32) ++ (own_e1 u0)) ++ (own_e1 u1)) ++ (own_e1 u2)) = (own_enc3 u0 u1 u2) from by simp [own_enc3]) ▸ g673)⟩

theorem own_appG (pr l : List Int32) (j : Nat) : (pr ++ l).getD (pr.length + j) 0 = l.getD j 0 := by
  simp [List.getD_eq_getElem?_getD, List.getElem?_append_right]
theorem own_pl (pr : List Int32) (j : Nat) (k : Int32) (hk : k.toInt = j) (h : pr.length + j < 1000) : (own_len pr + k).toInt = pr.length + j ∧ (own_len pr + k).toNatClampNeg = pr.length + j := by
  have a := own_lenI pr (by omega)
  have b := c_iadd (own_len pr) k
  have r := rng32 (own_len pr + k)
  have e : (own_len pr + k).toInt = pr.length + j := by omega
  exact ⟨e, by simp only [Int32.toNatClampNeg]; omega⟩
theorem own_seg0 {cs pr su : List Int32} {u p2 : Int32} (hcs : cs = pr ++ (own_e1 u ++ su)) (hp : p2 = own_len pr) (hn : cs.length < 1000) : ¬ p2 < (0 : Int32) := by
  have L : cs.length = pr.length + ((own_e1 u).length + su.length) := by rw [hcs, List.length_append, List.length_append]
  have a := own_lenI pr (by omega)
  rw [hp, Int32.lt_iff_toInt_lt, show (0 : Int32).toInt = 0 from rfl]
  omega
theorem own_segU {cs pr su : List Int32} {u p2 p3 : Int32} (hcs : cs = pr ++ (own_e1 u ++ su)) (hp : p2 = own_len pr) (hv : own_cb u = p3) (hn : cs.length < 1000) (hu : ¬ own_unr p3 = 0) :
    p2 < own_len cs ∧ cs.getD p2.toNatClampNeg 0 = own_cb u ∧ own_len (own_e1 u) = 1 := by
  have e : own_e1 u = [own_cb u] := by unfold own_e1; rw [if_neg (by rw [hv]; exact hu)]
  have L : cs.length = pr.length + ((own_e1 u).length + su.length) := by rw [hcs, List.length_append, List.length_append]
  rw [e] at hcs L
  simp only [List.length_cons, List.length_nil] at L
  have a := own_lenI pr (by omega)
  have b := own_lenI cs hn
  subst hp
  refine ⟨?_, ?_, by rw [e]; rfl⟩
  · rw [Int32.lt_iff_toInt_lt]; omega
  · have n : (own_len pr).toNatClampNeg = pr.length + 0 := by simp only [Int32.toNatClampNeg]; omega
    rw [n, hcs, own_appG]; rfl
theorem own_segR {cs pr su : List Int32} {u p2 p3 : Int32} (hcs : cs = pr ++ (own_e1 u ++ su)) (hp : p2 = own_len pr) (hv : own_cb u = p3) (hn : cs.length < 1000) (hu : own_unr p3 = 0) :
    ¬ own_len cs < (p2 + (3 : Int32)) ∧ (p2 < own_len cs ∧ cs.getD p2.toNatClampNeg 0 = 37) ∧ (¬ (p2 + (1 : Int32)) < (0 : Int32) ∧ (p2 + (1 : Int32)) < own_len cs ∧ cs.getD (p2 + (1 : Int32)).toNatClampNeg 0 = own_lc (own_hexb (own_hi u))) ∧
      (¬ (p2 + (2 : Int32)) < (0 : Int32) ∧ (p2 + (2 : Int32)) < own_len cs ∧ cs.getD (p2 + (2 : Int32)).toNatClampNeg 0 = own_lc (own_hexb (own_lo u))) ∧ own_len (own_e1 u) = 3 := by
  have e : own_e1 u = [37, own_lc (own_hexb (own_hi u)), own_lc (own_hexb (own_lo u))] := by unfold own_e1; rw [if_pos (by rw [hv]; exact hu)]
  have L : cs.length = pr.length + ((own_e1 u).length + su.length) := by rw [hcs, List.length_append, List.length_append]
  rw [e] at hcs L
  simp only [List.length_cons, List.length_nil] at L
  have a := own_lenI pr (by omega)
  have b := own_lenI cs hn
  subst hp
  have k1 := own_pl pr 1 1 rfl (by omega)
  have k2 := own_pl pr 2 2 rfl (by omega)
  have k3 := own_pl pr 3 3 rfl (by omega)
  have z0 : (0 : Int32).toInt = 0 := rfl
  refine ⟨?_, ⟨?_, ?_⟩, ⟨?_, ?_, ?_⟩, ⟨?_, ?_, ?_⟩, by rw [e]; rfl⟩
  · rw [Int32.lt_iff_toInt_lt]; omega
  · rw [Int32.lt_iff_toInt_lt]; omega
  · have n : (own_len pr).toNatClampNeg = pr.length + 0 := by simp only [Int32.toNatClampNeg]; omega
    rw [n, hcs, own_appG]; rfl
  · rw [Int32.lt_iff_toInt_lt, z0]; omega
  · rw [Int32.lt_iff_toInt_lt]; omega
  · rw [k1.2, hcs, own_appG]; rfl
  · rw [Int32.lt_iff_toInt_lt, z0]; omega
  · rw [Int32.lt_iff_toInt_lt]; omega
  · rw [k2.2, hcs, own_appG]; rfl
theorem own_hqU {u p3 : Int32} (hv : own_cb u = p3) : own_lc (nar .byte ((own_cb u).toInt8.toInt32)) = p3.toUInt32.toUInt16.toUInt32.toInt32 := by
  have h := own_cbR u
  rw [own_latget _ h, ← hv, own_i2c _ h.1 (by omega)]
theorem own_hq1 {u p3 : Int32} (hv : own_cb u = p3) : own_lc (nar .byte ((own_lc (own_hexb (own_hi u))).toInt8.toInt32)) = own_hx (p3 >>> ((4 : Int32) &&& 31)) := by
  rw [own_hexE (own_hiR u), ← hv]; rfl
theorem own_hq2 {u p3 : Int32} (hv : own_cb u = p3) : own_lc (nar .byte ((own_lc (own_hexb (own_lo u))).toInt8.toInt32)) = own_hx (p3 &&& (15 : Int32)) := by
  rw [own_hexE (own_loR u), ← hv]; rfl
theorem own_lenA (a b : List Int32) (h : (a ++ b).length < 1000) : own_len a + own_len b = own_len (a ++ b) := by
  have l := List.length_append (as := a) (bs := b)
  have x := own_lenI a (by omega)
  have y := own_lenI b (by omega)
  have z := own_lenI (a ++ b) h
  have q := c_iadd (own_len a) (own_len b)
  have r := rng32 (own_len a + own_len b)
  exact Int32.toInt_inj.mp (by omega)
theorem own_lenNN (a : List Int32) (h : a.length < 1000) : ¬ own_len a < (0 : Int32) := by
  have z := own_lenI a h
  rw [Int32.lt_iff_toInt_lt, show (0 : Int32).toInt = 0 from rfl]; omega

theorem d31_0 : decode method_5_code 0 = .ok (.iload_n 1, 1) := by decide +kernel
theorem d31_1 : decode method_5_code 1 = .ok (.ifCond .ge 5, 3) := by decide +kernel
theorem d31_6 : decode method_5_code 6 = .ok (.iload_n 2, 1) := by decide +kernel
theorem d31_7 : decode method_5_code 7 = .ok (.invokestatic 25, 3) := by decide +kernel
theorem d31_10 : decode method_5_code 10 = .ok (.ifCond .eq 27, 3) := by decide +kernel
theorem d31_13 : decode method_5_code 13 = .ok (.iload_n 1, 1) := by decide +kernel
theorem d31_14 : decode method_5_code 14 = .ok (.aload_n 0, 1) := by decide +kernel
theorem d31_15 : decode method_5_code 15 = .ok (.invokevirtual 19, 3) := by decide +kernel
theorem d31_18 : decode method_5_code 18 = .ok (.if_icmp .ge 17, 3) := by decide +kernel
theorem d31_21 : decode method_5_code 21 = .ok (.aload_n 0, 1) := by decide +kernel
theorem d31_22 : decode method_5_code 22 = .ok (.iload_n 1, 1) := by decide +kernel
theorem d31_23 : decode method_5_code 23 = .ok (.invokevirtual 29, 3) := by decide +kernel
theorem d31_26 : decode method_5_code 26 = .ok (.iload_n 2, 1) := by decide +kernel
theorem d31_27 : decode method_5_code 27 = .ok (.i2c, 1) := by decide +kernel
theorem d31_28 : decode method_5_code 28 = .ok (.if_icmp .ne 7, 3) := by decide +kernel
theorem d31_31 : decode method_5_code 31 = .ok (.iload_n 1, 1) := by decide +kernel
theorem d31_32 : decode method_5_code 32 = .ok (.iconst 1, 1) := by decide +kernel
theorem d31_33 : decode method_5_code 33 = .ok (.iadd, 1) := by decide +kernel
theorem d31_34 : decode method_5_code 34 = .ok (.ireturn, 1) := by decide +kernel
theorem d31_37 : decode method_5_code 37 = .ok (.iload_n 1, 1) := by decide +kernel
theorem d31_38 : decode method_5_code 38 = .ok (.iconst 3, 1) := by decide +kernel
theorem d31_39 : decode method_5_code 39 = .ok (.iadd, 1) := by decide +kernel
theorem d31_40 : decode method_5_code 40 = .ok (.aload_n 0, 1) := by decide +kernel
theorem d31_41 : decode method_5_code 41 = .ok (.invokevirtual 19, 3) := by decide +kernel
theorem d31_44 : decode method_5_code 44 = .ok (.if_icmp .le 5, 3) := by decide +kernel
theorem d31_49 : decode method_5_code 49 = .ok (.aload_n 0, 1) := by decide +kernel
theorem d31_50 : decode method_5_code 50 = .ok (.iload_n 1, 1) := by decide +kernel
theorem d31_51 : decode method_5_code 51 = .ok (.invokevirtual 29, 3) := by decide +kernel
theorem d31_54 : decode method_5_code 54 = .ok (.bipush 37, 2) := by decide +kernel
theorem d31_56 : decode method_5_code 56 = .ok (.if_icmp .eq 5, 3) := by decide +kernel
theorem d31_61 : decode method_5_code 61 = .ok (.aload_n 0, 1) := by decide +kernel
theorem d31_62 : decode method_5_code 62 = .ok (.iload_n 1, 1) := by decide +kernel
theorem d31_63 : decode method_5_code 63 = .ok (.iconst 1, 1) := by decide +kernel
theorem d31_64 : decode method_5_code 64 = .ok (.iadd, 1) := by decide +kernel
theorem d31_65 : decode method_5_code 65 = .ok (.invokevirtual 29, 3) := by decide +kernel
theorem d31_68 : decode method_5_code 68 = .ok (.iload_n 2, 1) := by decide +kernel
theorem d31_69 : decode method_5_code 69 = .ok (.iconst 4, 1) := by decide +kernel
theorem d31_70 : decode method_5_code 70 = .ok (.ishr, 1) := by decide +kernel
theorem d31_71 : decode method_5_code 71 = .ok (.invokestatic 33, 3) := by decide +kernel
theorem d31_74 : decode method_5_code 74 = .ok (.if_icmp .eq 5, 3) := by decide +kernel
theorem d31_79 : decode method_5_code 79 = .ok (.aload_n 0, 1) := by decide +kernel
theorem d31_80 : decode method_5_code 80 = .ok (.iload_n 1, 1) := by decide +kernel
theorem d31_81 : decode method_5_code 81 = .ok (.iconst 2, 1) := by decide +kernel
theorem d31_82 : decode method_5_code 82 = .ok (.iadd, 1) := by decide +kernel
theorem d31_83 : decode method_5_code 83 = .ok (.invokevirtual 29, 3) := by decide +kernel
theorem d31_86 : decode method_5_code 86 = .ok (.iload_n 2, 1) := by decide +kernel
theorem d31_87 : decode method_5_code 87 = .ok (.bipush 15, 2) := by decide +kernel
theorem d31_89 : decode method_5_code 89 = .ok (.iand, 1) := by decide +kernel
theorem d31_90 : decode method_5_code 90 = .ok (.invokestatic 33, 3) := by decide +kernel
theorem d31_93 : decode method_5_code 93 = .ok (.if_icmp .eq 5, 3) := by decide +kernel
theorem d31_98 : decode method_5_code 98 = .ok (.iload_n 1, 1) := by decide +kernel
theorem d31_99 : decode method_5_code 99 = .ok (.iconst 3, 1) := by decide +kernel
theorem d31_100 : decode method_5_code 100 = .ok (.iadd, 1) := by decide +kernel
theorem d31_101 : decode method_5_code 101 = .ok (.ireturn, 1) := by decide +kernel
theorem pn_31 : plainName "com/example/permgrid/permgrid/PercentEncodingEncodePinLaw" = true := by first | (simp [plainName, overriddenIn]; done) | decide +kernel
theorem pd_20 : parseMethodDescriptor "(I)Z" = some ⟨[.int], some .boolean⟩ := by decide +kernel
theorem ef_seg (m : MethodId) (x0 : Addr) (x1 : Int32) (x2 : Int32) : entryFrame m #[(.ref x0), (.int x1), (.int x2)] 3 = mkF m 0 #[vR x0, vI x1, vI x2] [] := by first | (simp [entryFrame, mkF, argsToLocals, Value.category]; done) | rfl
def Qseg (Z : State) (a1 : Addr) (p2 : Int32) (p3 : Int32) (wC : Int32) (wF : Value) (vb : Addr) (kb : ClassId) (cs : List Int32) (pr : List Int32) (su : List Int32) (u : Int32) (h0 : Heap) (n0 : Nat) (v : Option Value) (h : Heap) (L : List Loc) : Prop := v = (some (.int (p2 + (own_len (own_e1 u))))) ∧ Fr n0 L ∧ h = h0
set_option maxRecDepth 65536 in
set_option maxHeartbeats 40000000 in
theorem rmseg (l : Launch) (Z : State) (a0 : Array Value) (hw : ∀ d ∈ tables_1, d.before a0 Z = true) (ws : List Jvm.Cond) (a1 : Addr) (p2 : Int32) (p3 : Int32) (wC : Int32) (wF : Value) (vb : Addr) (kb : ClassId) (cs : List Int32) (pr : List Int32) (su : List Int32) (u : Int32) (h0 : Heap) (n0 : Nat) (Z0 : n0 ≤ h0.size) (O0 : Old Z n0 h0) (qC : (own_SC Z wC)) (qF : (own_SF Z wF)) (hS : own_StrL Z h0 a1 vb kb cs) (hn : (cs.length < 1000)) (hcs : (cs = pr ++ (own_e1 u ++ su))) (hp : (p2 = own_len pr)) (hv : (own_cb u = p3)) :
  MetFree l own_m2 (head1 (Jvm.Cond.code own_m2 method_5_code 3 (some .int) :: ws) (own_r 4 0 0 53)) (fun a U => a = #[(.ref a1), (.int p2), (.int p3)] ∧ Z.Warmed39 U.vm ∧ U.heap = h0) (fun _ _ _ _ _ => True) (fun _ U o U' => ∃ v L, o = .returned v ∧ Qseg Z a1 p2 p3 wC wF vb kb cs pr su u h0 n0 v U'.heap L ∧ FrameEnd U o U' L (own_r 4 0 0 53).cells (own_r 4 0 0 53).slots) := by
 refine MetFree.of_bodySF (plainFor_of_name pn_31) hisR ?_
 intro p e s m args below meth c s₁ Bd hml0 hP hK
 have H : ∀ (i : Nat) {d : Jvm.Cond}, tables_1[i]? = some d → d.before a0 Z = true := fun i _ h => hw _ (own_w i h)
 obtain ⟨rfl, hZ, hh⟩ := hP
 have hx := Bd.exec
 have hby := Bd.bytes
 have hml : c.maxLocals = 3 := hml0
 have hown0 := findClass_of_methodNamed Bd.named
 have hown : s.vm.findClass "com/example/permgrid/permgrid/PercentEncodingEncodePinLaw" = some m.cls := hown0
 have hnm := (name_of_methodNamed Bd.named Bd.method).1
 have X0 : Stand p l e (own_r 4 0 0 53) s m #[(.ref a1), (.int p2), (.int p3)] below meth c s₁ [] 0 0 := Stand.of_body Bd
 have e0 : s₁.heap = h0 := by rw [← hh, Bd.state]; rfl
 have N0 := Fr.nil n0
 obtain ⟨S0, hS0⟩ : ∃ z, z = s₁.setTop (entryFrame m #[(.ref a1), (.int p2), (.int p3)] 3) := ⟨_, rfl⟩
 have pre0 : own_Go p e below S0 (s₁.setTop (mkF m 0 #[vR a1, vI p2, vI p3] [])) := fun t k => by rw [hS0]; exact castTop (ef_seg m a1 p2 p3) k
 have fin : ∀ t, Steps p.tables e below S0 t → Steps p.tables e below (s₁.setTop (entryFrame m #[(.ref a1), (.int p2), (.int p3)] 3)) t := fun t k => by rw [hS0] at k; exact k
 have t0a := own_seg0 hcs hp hn
 have pre1 : own_Go p e below S0 (s₁.setTop (mkF m 7 #[vR a1, vI p2, vI p3] [(.int p3)])) := by
  intro t kt
  refine pre0 t ?_
  refine XS.iloadN X0.here hx rfl (hb hby d31_0) rfl ?_
  refine XS.ifYes X0.here hx rfl (pc0 := 1) (pc' := 6) rfl (hb hby d31_1) rfl ((if0 _ _).trans (flt t0a).2.1) (by decide) (by decide) ?_
  refine XS.iloadN X0.here hx rfl (hb hby d31_6) rfl ?_
  exact kt
 obtain ⟨_, _, ⟨T2, L2, k2, n2⟩, -, X2, ⟨Lc2, hQ2, l2, y2, z2⟩, st2⟩ := Jvm.LawKit.callS X0 hx (y := own_m3) hown (mvT hZ (H 168 rfl)) (mvT hZ (H 169 rfl)) (mvT hZ (H 166 rfl)) (mvT hZ (H 170 rfl)) (by decide) (backOf (W := 0) (rm32 l Z a0 hw [] p3 h0 n0 Z0 ) hZ (H 170 rfl) (H 166 rfl) (by decide) (by decide)) (g := (own_top pre1)) rfl (by rw [hml]; rfl) (argsL := [(.int p3)]) (rest := []) (lenOf pd_20 rfl) rfl (by show 2 * 0 + _ ≤ _; exact Nat.le_of_eq rfl) (hb hby d31_7) (fun _ _ => ⟨rfl, e0, (by decide : 0 + 0 ≤ _), (by decide : 0 + 0 ≤ _)⟩)
 dsimp only [Pt.U, Pt.locs, Pt.cells, Pt.slots] at X2 l2 y2 z2 st2 hQ2
 subst l2 y2 z2
 obtain ⟨rfl, Nq2, eq2⟩ := hQ2
 have N2 := Fr.app N0 Nq2
 have pre4 : own_Go p e below S0 (T2.setTop (mkF m 10 #[vR a1, vI p2, vI p3] [(.int (own_unr p3))])) := by
  intro t kt
  refine pre1 t ?_
  refine st2 _ ?_
  show Steps p.tables e below (T2.setTop (mkF m 10 #[vR a1, vI p2, vI p3] [(.int (own_unr p3))])) _
  exact kt
 by_cases hu3 : (own_unr p3) = (0 : Int32)
 ·obtain ⟨hl, ⟨t0b, t0c⟩, ⟨t1a, t1b, t1c⟩, ⟨t2a, t2b, t2c⟩, hL⟩ := own_segR hcs hp hv hn hu3
  have pre5 : own_Go p e below S0 (T2.setTop (mkF m 41 #[vR a1, vI p2, vI p3] [(.ref a1), (.int (p2 + (3 : Int32)))])) := by
   intro t kt
   refine pre4 t ?_
   refine XS.ifYes X2.here hx rfl (pc0 := 10) (pc' := 37) rfl (hb hby d31_10) rfl ((if0 _ _).trans (teq hu3).1) (by decide) (by decide) ?_
   refine XS.iloadN X2.here hx rfl (hb hby d31_37) rfl ?_
   refine XS.iconst X2.here hx rfl (hb hby d31_38) ?_
   refine XS.iadd X2.here hx rfl (hb hby d31_39) rfl ?_
   refine XS.aloadN X2.here hx rfl (hb hby d31_40) rfl rfl ?_
   exact kt
  obtain ⟨cq6, kq6, qa6, qb6, qc6⟩ := isOf hZ eq2 hS.1
  obtain ⟨_, _, ⟨T6, L6, k6, n6⟩, -, X6, ⟨Lc6, hQ6, l6, y6, z6⟩, st6⟩ := X2.virtualBack hx (y := own_m19) (z := own_m19) hown (mvT hZ (H 79 rfl)) (mvT hZ (H 80 rfl)) (notFace_of_selects (args := #[]) (mvT hZ (H 82 rfl))) (mvT hZ (H 82 rfl)) (mvT hZ (H 81 rfl)) (by decide) (backOf (W := 1) (rmlenL l Z a0 hw [] a1 wC vb kb cs h0 n0 Z0 O0 qC hS) hZ (H 83 rfl) (H 21 rfl) (by decide) (by decide)) qa6 qc6 (g := (own_top pre5)) rfl (by rw [hml]; rfl) (Steps.refl _) (argsL := []) (rest := [(.int (p2 + (3 : Int32)))]) (lenOf pd_10 rfl) rfl (by show 2 * 0 + _ ≤ _; exact Nat.le_of_eq rfl) (hb hby d31_41) (fun _ _ => ⟨rfl, eq2, (by decide : 0 + 0 ≤ _), (by decide : 0 + 0 ≤ _)⟩)
  dsimp only [Pt.U, Pt.locs, Pt.cells, Pt.slots] at X6 l6 y6 z6 st6 hQ6
  subst l6 y6 z6
  obtain ⟨rfl, Nq6, eq6⟩ := hQ6
  have N6 := Fr.app N2 Nq6
  have pre7 : own_Go p e below S0 (T6.setTop (mkF m 51 #[vR a1, vI p2, vI p3] [(.int p2), (.ref a1)])) := by
   intro t kt
   refine pre5 t ?_
   refine st6.trans ?_
   show Steps p.tables e below (T6.setTop (mkF m 44 #[vR a1, vI p2, vI p3] [(.int (own_len cs)), (.int (p2 + (3 : Int32)))])) _
   refine XS.icmpYes X6.here hx rfl (pc0 := 44) (pc' := 49) rfl (hb hby d31_44) rfl (flt hl).2.2.2 (by decide) (by decide) ?_
   refine XS.aloadN X6.here hx rfl (hb hby d31_49) rfl rfl ?_
   refine XS.iloadN X6.here hx rfl (hb hby d31_50) rfl ?_
   exact kt
  obtain ⟨cq8, kq8, qa8, qb8, qc8⟩ := isOf hZ eq6 hS.1
  obtain ⟨_, _, ⟨T8, L8, k8, n8⟩, -, X8, ⟨Lc8, hQ8, l8, y8, z8⟩, st8⟩ := X6.virtualBack hx (y := own_m15) (z := own_m15) hown (mvT hZ (H 171 rfl)) (mvT hZ (H 113 rfl)) (notFace_of_selects (args := #[]) (mvT hZ (H 115 rfl))) (mvT hZ (H 115 rfl)) (mvT hZ (H 114 rfl)) (by decide) (backOf (W := 0) (rmchA l Z a0 hw [] a1 p2 wC wF vb kb (own_len cs) (cs.map own_lb) (.int 0) (nar .byte ((37 : Int32).toInt8.toInt32)) h0 n0 Z0 O0 qC qF hS.1 hS.2.2.1 hS.2.1 hS.2.2.2 t0a t0b (own_getLat hn t0a t0b t0c)) hZ (H 116 rfl) (H 21 rfl) (by decide) (by decide)) qa8 qc8 (g := (own_top pre7)) rfl (by rw [hml]; rfl) (Steps.refl _) (argsL := [(.int p2)]) (rest := []) (lenOf pd_19 rfl) rfl (by show 2 * 0 + _ ≤ _; exact Nat.le_of_eq rfl) (hb hby d31_51) (fun _ _ => ⟨rfl, eq6, (by decide : 0 + 0 ≤ _), (by decide : 0 + 0 ≤ _)⟩)
  dsimp only [Pt.U, Pt.locs, Pt.cells, Pt.slots] at X8 l8 y8 z8 st8 hQ8
  subst l8 y8 z8
  obtain ⟨rfl, Nq8, eq8⟩ := hQ8
  have N8 := Fr.app N6 Nq8
  have pre9 : own_Go p e below S0 (T8.setTop (mkF m 65 #[vR a1, vI p2, vI p3] [(.int (p2 + (1 : Int32))), (.ref a1)])) := by
   intro t kt
   refine pre7 t ?_
   refine st8.trans ?_
   show Steps p.tables e below (T8.setTop (mkF m 54 #[vR a1, vI p2, vI p3] [(.int (own_lc (nar .byte ((37 : Int32).toInt8.toInt32))))])) _
   refine XS.bipush X8.here hx rfl (hb hby d31_54) ?_
   refine XS.icmpYes X8.here hx rfl (pc0 := 56) (pc' := 61) rfl (hb hby d31_56) rfl (teq (by decide : own_lc (nar .byte ((37 : Int32).toInt8.toInt32)) = 37)).1 (by decide) (by decide) ?_
   refine XS.aloadN X8.here hx rfl (hb hby d31_61) rfl rfl ?_
   refine XS.iloadN X8.here hx rfl (hb hby d31_62) rfl ?_
   refine XS.iconst X8.here hx rfl (hb hby d31_63) ?_
   refine XS.iadd X8.here hx rfl (hb hby d31_64) rfl ?_
   exact kt
  obtain ⟨cq10, kq10, qa10, qb10, qc10⟩ := isOf hZ eq8 hS.1
  obtain ⟨_, _, ⟨T10, L10, k10, n10⟩, -, X10, ⟨Lc10, hQ10, l10, y10, z10⟩, st10⟩ := X8.virtualBack hx (y := own_m15) (z := own_m15) hown (mvT hZ (H 171 rfl)) (mvT hZ (H 113 rfl)) (notFace_of_selects (args := #[]) (mvT hZ (H 115 rfl))) (mvT hZ (H 115 rfl)) (mvT hZ (H 114 rfl)) (by decide) (backOf (W := 0) (rmchA l Z a0 hw [] a1 (p2 + (1 : Int32)) wC wF vb kb (own_len cs) (cs.map own_lb) (.int 0) (nar .byte ((own_lc (own_hexb (own_hi u))).toInt8.toInt32)) h0 n0 Z0 O0 qC qF hS.1 hS.2.2.1 hS.2.1 hS.2.2.2 t1a t1b (own_getLat hn t1a t1b t1c)) hZ (H 116 rfl) (H 21 rfl) (by decide) (by decide)) qa10 qc10 (g := (own_top pre9)) rfl (by rw [hml]; rfl) (Steps.refl _) (argsL := [(.int (p2 + (1 : Int32)))]) (rest := []) (lenOf pd_19 rfl) rfl (by show 2 * 0 + _ ≤ _; exact Nat.le_of_eq rfl) (hb hby d31_65) (fun _ _ => ⟨rfl, eq8, (by decide : 0 + 0 ≤ _), (by decide : 0 + 0 ≤ _)⟩)
  dsimp only [Pt.U, Pt.locs, Pt.cells, Pt.slots] at X10 l10 y10 z10 st10 hQ10
  subst l10 y10 z10
  obtain ⟨rfl, Nq10, eq10⟩ := hQ10
  have N10 := Fr.app N8 Nq10
  have pre11 : own_Go p e below S0 (T10.setTop (mkF m 71 #[vR a1, vI p2, vI p3] [(.int (p3 >>> ((4 : Int32) &&& 31))), (.int (own_lc (nar .byte ((own_lc (own_hexb (own_hi u))).toInt8.toInt32))))])) := by
   intro t kt
   refine pre9 t ?_
   refine st10.trans ?_
   show Steps p.tables e below (T10.setTop (mkF m 68 #[vR a1, vI p2, vI p3] [(.int (own_lc (nar .byte ((own_lc (own_hexb (own_hi u))).toInt8.toInt32))))])) _
   refine XS.iloadN X10.here hx rfl (hb hby d31_68) rfl ?_
   refine XS.iconst X10.here hx rfl (hb hby d31_69) ?_
   refine XS.ishr X10.here hx rfl (hb hby d31_70) rfl ?_
   exact kt
  obtain ⟨_, _, ⟨T12, L12, k12, n12⟩, -, X12, ⟨Lc12, hQ12, l12, y12, z12⟩, st12⟩ := Jvm.LawKit.callS X10 hx (y := own_m1) hown (mvT hZ (H 172 rfl)) (mvT hZ (H 173 rfl)) (mvT hZ (H 166 rfl)) (mvT hZ (H 174 rfl)) (by decide) (backOf (W := 1) (rm33 l Z a0 hw [] (p3 >>> ((4 : Int32) &&& 31)) h0 n0 Z0 ) hZ (H 174 rfl) (H 166 rfl) (by decide) (by decide)) (g := (own_top pre11)) rfl (by rw [hml]; rfl) (argsL := [(.int (p3 >>> ((4 : Int32) &&& 31)))]) (rest := [(.int (own_lc (nar .byte ((own_lc (own_hexb (own_hi u))).toInt8.toInt32))))]) (lenOf pd_19 rfl) rfl (by show 2 * 0 + _ ≤ _; exact Nat.le_of_eq rfl) (hb hby d31_71) (fun _ _ => ⟨rfl, eq10, (by decide : 0 + 0 ≤ _), (by decide : 0 + 0 ≤ _)⟩)
  dsimp only [Pt.U, Pt.locs, Pt.cells, Pt.slots] at X12 l12 y12 z12 st12 hQ12
  subst l12 y12 z12
  obtain ⟨rfl, Nq12, eq12⟩ := hQ12
  have N12 := Fr.app N10 Nq12
  have pre13 : own_Go p e below S0 (T12.setTop (mkF m 83 #[vR a1, vI p2, vI p3] [(.int (p2 + (2 : Int32))), (.ref a1)])) := by
   intro t kt
   refine pre11 t ?_
   refine st12 _ ?_
   show Steps p.tables e below (T12.setTop (mkF m 74 #[vR a1, vI p2, vI p3] [(.int (own_hx (p3 >>> ((4 : Int32) &&& 31)))), (.int (own_lc (nar .byte ((own_lc (own_hexb (own_hi u))).toInt8.toInt32))))])) _
   refine XS.icmpYes X12.here hx rfl (pc0 := 74) (pc' := 79) rfl (hb hby d31_74) rfl (teq (own_hq1 hv)).1 (by decide) (by decide) ?_
   refine XS.aloadN X12.here hx rfl (hb hby d31_79) rfl rfl ?_
   refine XS.iloadN X12.here hx rfl (hb hby d31_80) rfl ?_
   refine XS.iconst X12.here hx rfl (hb hby d31_81) ?_
   refine XS.iadd X12.here hx rfl (hb hby d31_82) rfl ?_
   exact kt
  obtain ⟨cq14, kq14, qa14, qb14, qc14⟩ := isOf hZ eq12 hS.1
  obtain ⟨_, _, ⟨T14, L14, k14, n14⟩, -, X14, ⟨Lc14, hQ14, l14, y14, z14⟩, st14⟩ := X12.virtualBack hx (y := own_m15) (z := own_m15) hown (mvT hZ (H 171 rfl)) (mvT hZ (H 113 rfl)) (notFace_of_selects (args := #[]) (mvT hZ (H 115 rfl))) (mvT hZ (H 115 rfl)) (mvT hZ (H 114 rfl)) (by decide) (backOf (W := 0) (rmchA l Z a0 hw [] a1 (p2 + (2 : Int32)) wC wF vb kb (own_len cs) (cs.map own_lb) (.int 0) (nar .byte ((own_lc (own_hexb (own_lo u))).toInt8.toInt32)) h0 n0 Z0 O0 qC qF hS.1 hS.2.2.1 hS.2.1 hS.2.2.2 t2a t2b (own_getLat hn t2a t2b t2c)) hZ (H 116 rfl) (H 21 rfl) (by decide) (by decide)) qa14 qc14 (g := (own_top pre13)) rfl (by rw [hml]; rfl) (Steps.refl _) (argsL := [(.int (p2 + (2 : Int32)))]) (rest := []) (lenOf pd_19 rfl) rfl (by show 2 * 0 + _ ≤ _; exact Nat.le_of_eq rfl) (hb hby d31_83) (fun _ _ => ⟨rfl, eq12, (by decide : 0 + 0 ≤ _), (by decide : 0 + 0 ≤ _)⟩)
  dsimp only [Pt.U, Pt.locs, Pt.cells, Pt.slots] at X14 l14 y14 z14 st14 hQ14
  subst l14 y14 z14
  obtain ⟨rfl, Nq14, eq14⟩ := hQ14
  have N14 := Fr.app N12 Nq14
  have pre15 : own_Go p e below S0 (T14.setTop (mkF m 90 #[vR a1, vI p2, vI p3] [(.int (p3 &&& (15 : Int32))), (.int (own_lc (nar .byte ((own_lc (own_hexb (own_lo u))).toInt8.toInt32))))])) := by
   intro t kt
   refine pre13 t ?_
   refine st14.trans ?_
   show Steps p.tables e below (T14.setTop (mkF m 86 #[vR a1, vI p2, vI p3] [(.int (own_lc (nar .byte ((own_lc (own_hexb (own_lo u))).toInt8.toInt32))))])) _
   refine XS.iloadN X14.here hx rfl (hb hby d31_86) rfl ?_
   refine XS.bipush X14.here hx rfl (hb hby d31_87) ?_
   refine XS.iand X14.here hx rfl (hb hby d31_89) rfl ?_
   exact kt
  obtain ⟨_, _, ⟨T16, L16, k16, n16⟩, -, X16, ⟨Lc16, hQ16, l16, y16, z16⟩, st16⟩ := Jvm.LawKit.callS X14 hx (y := own_m1) hown (mvT hZ (H 172 rfl)) (mvT hZ (H 173 rfl)) (mvT hZ (H 166 rfl)) (mvT hZ (H 174 rfl)) (by decide) (backOf (W := 1) (rm33 l Z a0 hw [] (p3 &&& (15 : Int32)) h0 n0 Z0 ) hZ (H 174 rfl) (H 166 rfl) (by decide) (by decide)) (g := (own_top pre15)) rfl (by rw [hml]; rfl) (argsL := [(.int (p3 &&& (15 : Int32)))]) (rest := [(.int (own_lc (nar .byte ((own_lc (own_hexb (own_lo u))).toInt8.toInt32))))]) (lenOf pd_19 rfl) rfl (by show 2 * 0 + _ ≤ _; exact Nat.le_of_eq rfl) (hb hby d31_90) (fun _ _ => ⟨rfl, eq14, (by decide : 0 + 0 ≤ _), (by decide : 0 + 0 ≤ _)⟩)
  dsimp only [Pt.U, Pt.locs, Pt.cells, Pt.slots] at X16 l16 y16 z16 st16 hQ16
  subst l16 y16 z16
  obtain ⟨rfl, Nq16, eq16⟩ := hQ16
  have N16 := Fr.app N14 Nq16
  have pre17 : own_Go p e below S0 (T16.setTop (mkF m 101 #[vR a1, vI p2, vI p3] [(.int (p2 + (3 : Int32)))])) := by
   intro t kt
   refine pre15 t ?_
   refine st16 _ ?_
   show Steps p.tables e below (T16.setTop (mkF m 93 #[vR a1, vI p2, vI p3] [(.int (own_hx (p3 &&& (15 : Int32)))), (.int (own_lc (nar .byte ((own_lc (own_hexb (own_lo u))).toInt8.toInt32))))])) _
   refine XS.icmpYes X16.here hx rfl (pc0 := 93) (pc' := 98) rfl (hb hby d31_93) rfl (teq (own_hq2 hv)).1 (by decide) (by decide) ?_
   refine XS.iloadN X16.here hx rfl (hb hby d31_98) rfl ?_
   refine XS.iconst X16.here hx rfl (hb hby d31_99) ?_
   refine XS.iadd X16.here hx rfl (hb hby d31_100) rfl ?_
   exact kt
  obtain ⟨fs, hr, hrun, hended, hW, hsame⟩ := X16.leave (v := some (.int (p2 + (3 : Int32)))) (fun h => by rw [Bd.returns] at h; cases h)
  refine ⟨_, _, fin _ (pre17 _ ?_), hrun, hended, _, _, rfl, ?_, ⟨_, rfl⟩, hW, hsame.mono (by decide) (by decide)⟩
  ·exact retI X16 hx Bd.returns (hb hby d31_101) hr
  ·show Qseg Z a1 p2 p3 wC wF vb kb cs pr su u h0 n0 _ T16.heap _
   rw [eq16]
   exact ⟨(by show some _ = some _; rw [hL]), N16, rfl⟩
 ·obtain ⟨t0b, t0c, hL⟩ := own_segU hcs hp hv hn hu3
  have pre18 : own_Go p e below S0 (T2.setTop (mkF m 15 #[vR a1, vI p2, vI p3] [(.ref a1), (.int p2)])) := by
   intro t kt
   refine pre4 t ?_
   refine XS.ifNo X2.here hx rfl (hb hby d31_10) rfl ((if0 _ _).trans (feq hu3).1) ?_
   refine XS.iloadN X2.here hx rfl (hb hby d31_13) rfl ?_
   refine XS.aloadN X2.here hx rfl (hb hby d31_14) rfl rfl ?_
   exact kt
  obtain ⟨cq19, kq19, qa19, qb19, qc19⟩ := isOf hZ eq2 hS.1
  obtain ⟨_, _, ⟨T19, L19, k19, n19⟩, -, X19, ⟨Lc19, hQ19, l19, y19, z19⟩, st19⟩ := X2.virtualBack hx (y := own_m19) (z := own_m19) hown (mvT hZ (H 79 rfl)) (mvT hZ (H 80 rfl)) (notFace_of_selects (args := #[]) (mvT hZ (H 82 rfl))) (mvT hZ (H 82 rfl)) (mvT hZ (H 81 rfl)) (by decide) (backOf (W := 1) (rmlenL l Z a0 hw [] a1 wC vb kb cs h0 n0 Z0 O0 qC hS) hZ (H 83 rfl) (H 21 rfl) (by decide) (by decide)) qa19 qc19 (g := (own_top pre18)) rfl (by rw [hml]; rfl) (Steps.refl _) (argsL := []) (rest := [(.int p2)]) (lenOf pd_10 rfl) rfl (by show 2 * 0 + _ ≤ _; exact Nat.le_of_eq rfl) (hb hby d31_15) (fun _ _ => ⟨rfl, eq2, (by decide : 0 + 0 ≤ _), (by decide : 0 + 0 ≤ _)⟩)
  dsimp only [Pt.U, Pt.locs, Pt.cells, Pt.slots] at X19 l19 y19 z19 st19 hQ19
  subst l19 y19 z19
  obtain ⟨rfl, Nq19, eq19⟩ := hQ19
  have N19 := Fr.app N2 Nq19
  have pre20 : own_Go p e below S0 (T19.setTop (mkF m 23 #[vR a1, vI p2, vI p3] [(.int p2), (.ref a1)])) := by
   intro t kt
   refine pre18 t ?_
   refine st19.trans ?_
   show Steps p.tables e below (T19.setTop (mkF m 18 #[vR a1, vI p2, vI p3] [(.int (own_len cs)), (.int p2)])) _
   refine XS.icmpNo X19.here hx rfl (hb hby d31_18) rfl (tlt t0b).2.1 ?_
   refine XS.aloadN X19.here hx rfl (hb hby d31_21) rfl rfl ?_
   refine XS.iloadN X19.here hx rfl (hb hby d31_22) rfl ?_
   exact kt
  obtain ⟨cq21, kq21, qa21, qb21, qc21⟩ := isOf hZ eq19 hS.1
  obtain ⟨_, _, ⟨T21, L21, k21, n21⟩, -, X21, ⟨Lc21, hQ21, l21, y21, z21⟩, st21⟩ := X19.virtualBack hx (y := own_m15) (z := own_m15) hown (mvT hZ (H 171 rfl)) (mvT hZ (H 113 rfl)) (notFace_of_selects (args := #[]) (mvT hZ (H 115 rfl))) (mvT hZ (H 115 rfl)) (mvT hZ (H 114 rfl)) (by decide) (backOf (W := 0) (rmchA l Z a0 hw [] a1 p2 wC wF vb kb (own_len cs) (cs.map own_lb) (.int 0) (nar .byte ((own_cb u).toInt8.toInt32)) h0 n0 Z0 O0 qC qF hS.1 hS.2.2.1 hS.2.1 hS.2.2.2 t0a t0b (own_getLat hn t0a t0b t0c)) hZ (H 116 rfl) (H 21 rfl) (by decide) (by decide)) qa21 qc21 (g := (own_top pre20)) rfl (by rw [hml]; rfl) (Steps.refl _) (argsL := [(.int p2)]) (rest := []) (lenOf pd_19 rfl) rfl (by show 2 * 0 + _ ≤ _; exact Nat.le_of_eq rfl) (hb hby d31_23) (fun _ _ => ⟨rfl, eq19, (by decide : 0 + 0 ≤ _), (by decide : 0 + 0 ≤ _)⟩)
  dsimp only [Pt.U, Pt.locs, Pt.cells, Pt.slots] at X21 l21 y21 z21 st21 hQ21
  subst l21 y21 z21
  obtain ⟨rfl, Nq21, eq21⟩ := hQ21
  have N21 := Fr.app N19 Nq21
  have pre22 : own_Go p e below S0 (T21.setTop (mkF m 34 #[vR a1, vI p2, vI p3] [(.int (p2 + (1 : Int32)))])) := by
   intro t kt
   refine pre20 t ?_
   refine st21.trans ?_
   show Steps p.tables e below (T21.setTop (mkF m 26 #[vR a1, vI p2, vI p3] [(.int (own_lc (nar .byte ((own_cb u).toInt8.toInt32))))])) _
   refine XS.iloadN X21.here hx rfl (hb hby d31_26) rfl ?_
   refine XS.i2c X21.here hx rfl (hb hby d31_27) rfl ?_
   refine XS.icmpNo X21.here hx rfl (hb hby d31_28) rfl (teq (own_hqU hv)).2 ?_
   refine XS.iloadN X21.here hx rfl (hb hby d31_31) rfl ?_
   refine XS.iconst X21.here hx rfl (hb hby d31_32) ?_
   refine XS.iadd X21.here hx rfl (hb hby d31_33) rfl ?_
   exact kt
  obtain ⟨fs, hr, hrun, hended, hW, hsame⟩ := X21.leave (v := some (.int (p2 + (1 : Int32)))) (fun h => by rw [Bd.returns] at h; cases h)
  refine ⟨_, _, fin _ (pre22 _ ?_), hrun, hended, _, _, rfl, ?_, ⟨_, rfl⟩, hW, hsame.mono (by decide) (by decide)⟩
  ·exact retI X21 hx Bd.returns (hb hby d31_34) hr
  ·show Qseg Z a1 p2 p3 wC wF vb kb cs pr su u h0 n0 _ T21.heap _
   rw [eq21]
   exact ⟨(by show some _ = some _; rw [hL]), N21, rfl⟩

theorem own_encL1 (u0 : Int32) : (own_enc1 u0).length < 1000 := by
  have q0 := own_e1L u0
  simp only [own_enc1, List.length_append]; omega

theorem own_encL2 (u0 : Int32) (u1 : Int32) : (own_enc2 u0 u1).length < 1000 := by
  have q0 := own_e1L u0; have q1 := own_e1L u1
  simp only [own_enc2, List.length_append]; omega

theorem own_encL3 (u0 : Int32) (u1 : Int32) (u2 : Int32) : (own_enc3 u0 u1 u2).length < 1000 := by
  have q0 := own_e1L u0; have q1 := own_e1L u1; have q2 := own_e1L u2
  simp only [own_enc3, List.length_append]; omega

theorem own_and3 (x : Int32) : (x &&& 3) = 0 ∨ (x &&& 3) = 1 ∨ (x &&& 3) = 2 ∨ (x &&& 3) = 3 := by
  have h := c_mask x 3 2 (by decide) (by decide)
  have he : ∀ a b : Int32, a = b ↔ a.toInt = b.toInt := fun a b => Int32.toInt_inj.symm
  simp only [he, show (0 : Int32).toInt = 0 from rfl, show (1 : Int32).toInt = 1 from rfl, show (2 : Int32).toInt = 2 from rfl, show (3 : Int32).toInt = 3 from rfl]
  omega

theorem own_hcs10 (u0 : Int32) : own_enc1 u0 = ([] : List Int32) ++ (own_e1 u0 ++ ([] : List Int32)) := by unfold own_enc1; rw [List.append_nil]; exact (List.nil_append _).symm
theorem own_fin1 (u0 : Int32) : (own_e1 u0) = own_enc1 u0 := by unfold own_enc1; simp only [List.nil_append, List.append_nil, List.append_assoc]

theorem own_hcs20 (u0 u1 : Int32) : own_enc2 u0 u1 = ([] : List Int32) ++ (own_e1 u0 ++ (own_e1 u1)) := by unfold own_enc2; exact (List.nil_append _).symm
theorem own_hcs21 (u0 u1 : Int32) : own_enc2 u0 u1 = (own_e1 u0) ++ (own_e1 u1 ++ ([] : List Int32)) := by unfold own_enc2; simp only [List.append_nil, List.append_assoc]
theorem own_fin2 (u0 u1 : Int32) : ((own_e1 u0) ++ (own_e1 u1)) = own_enc2 u0 u1 := by unfold own_enc2; simp only [List.nil_append, List.append_nil, List.append_assoc]

theorem own_hcs30 (u0 u1 u2 : Int32) : own_enc3 u0 u1 u2 = ([] : List Int32) ++ (own_e1 u0 ++ ((own_e1 u1) ++ (own_e1 u2))) := by unfold own_enc3; exact (List.nil_append _).symm
theorem own_hcs31 (u0 u1 u2 : Int32) : own_enc3 u0 u1 u2 = (own_e1 u0) ++ (own_e1 u1 ++ (own_e1 u2)) := by unfold own_enc3; simp only [List.append_nil, List.append_assoc]
theorem own_hcs32 (u0 u1 u2 : Int32) : own_enc3 u0 u1 u2 = ((own_e1 u0) ++ (own_e1 u1)) ++ (own_e1 u2 ++ ([] : List Int32)) := by unfold own_enc3; simp only [List.append_nil, List.append_assoc]
theorem own_fin3 (u0 u1 u2 : Int32) : (((own_e1 u0) ++ (own_e1 u1)) ++ (own_e1 u2)) = own_enc3 u0 u1 u2 := by unfold own_enc3; simp only [List.nil_append, List.append_nil, List.append_assoc]

theorem pn_0 : plainName "com/example/permgrid/permgrid/PercentEncodingEncodePinLaw" = true := by first | (simp [plainName, overriddenIn]; done) | decide +kernel
theorem pd_21 : parseMethodDescriptor "([B)Ljava/lang/String;" = some ⟨[(.array .byte)], some (.object "java/lang/String")⟩ := by decide +kernel
theorem pd_22 : parseMethodDescriptor "(Ljava/lang/String;II)I" = some ⟨[(.object "java/lang/String"), .int, .int], some .int⟩ := by decide +kernel
theorem ef_0 (m : MethodId) (x0 : Int32) (x1 : Int32) (x2 : Int32) (x3 : Int32) : entryFrame m #[(.int x0), (.int x1), (.int x2), (.int x3)] maxLocals = mkF m 0 #[vI x0, vI x1, vI x2, vI x3, .unset, .unset, .unset, .unset] [] := by first | (simp [entryFrame, mkF, argsToLocals, Value.category, maxLocals]; done) | rfl
def Q0 (Z : State) (p1 : Int32) (p2 : Int32) (p3 : Int32) (p4 : Int32) (wC : Int32) (wF : Value) (h0 : Heap) (n0 : Nat) (v : Option Value) (h : Heap) (L : List Loc) : Prop := v = (some (.int 1)) ∧ Fr n0 L
set_option maxRecDepth 65536 in
set_option maxHeartbeats 40000000 in
theorem rm0 (l : Launch) (Z : State) (a0 : Array Value) (hw : ∀ d ∈ tables_1, d.before a0 Z = true) (ws : List Jvm.Cond) (p1 : Int32) (p2 : Int32) (p3 : Int32) (p4 : Int32) (wC : Int32) (wF : Value) (h0 : Heap) (n0 : Nat) (Z0 : n0 ≤ h0.size) (O0 : Old Z n0 h0) (qC : (own_SC Z wC)) (qF : (own_SF Z wF)) :
  MetFree l x (head1 (Jvm.Cond.code x code maxLocals ret :: ws) room_1) (fun a U => a = #[(.int p1), (.int p2), (.int p3), (.int p4)] ∧ Z.Warmed39 U.vm ∧ U.heap = h0 ∧ CHv Z own_EL U.vm h0 ∧ ∀ x ∈ ([] : List Addr), Safe Z own_EL U.vm h0 x) (fun _ _ _ _ _ => True) (fun _ U o U' => ∃ v L, o = .returned v ∧ Q0 Z p1 p2 p3 p4 wC wF h0 n0 v U'.heap L ∧ ReturnedEndW U o U' L 20 389) := by
 refine MetFree.of_bodySF (plainFor_of_name pn_0) hisR ?_
 intro p e s m args below meth c s₁ Bd hml0 hP hK
 have H : ∀ (i : Nat) {d : Jvm.Cond}, tables_1[i]? = some d → d.before a0 Z = true := fun i _ h => hw _ (own_w i h)
 obtain ⟨rfl, hZ, hh, hCH, hSF⟩ := hP
 have hx := Bd.exec
 have hby := Bd.bytes
 have hml : c.maxLocals = 8 := hml0
 have hown0 := findClass_of_methodNamed Bd.named
 have hown : s.vm.findClass "com/example/permgrid/permgrid/PercentEncodingEncodePinLaw" = some m.cls := hown0
 have hnm := (name_of_methodNamed Bd.named Bd.method).1
 have X0 : Stand p l e room_1 s m #[(.int p1), (.int p2), (.int p3), (.int p4)] below meth c s₁ [] 0 0 := Stand.of_body Bd
 have e0 : s₁.heap = h0 := by rw [← hh, Bd.state]; rfl
 have N0 := Fr.nil n0
 obtain ⟨S0, hS0⟩ : ∃ z, z = s₁.setTop (entryFrame m #[(.int p1), (.int p2), (.int p3), (.int p4)] maxLocals) := ⟨_, rfl⟩
 have pre0 : own_Go p e below S0 (s₁.setTop (mkF m 0 #[vI p1, vI p2, vI p3, vI p4, .unset, .unset, .unset, .unset] [])) := fun t k => by rw [hS0]; exact castTop (ef_0 m p1 p2 p3 p4) k
 have fin : ∀ t, Steps p.tables e below S0 t → Steps p.tables e below (s₁.setTop (entryFrame m #[(.int p1), (.int p2), (.int p3), (.int p4)] maxLocals)) t := fun t k => by rw [hS0] at k; exact k
 have ch0 : CHr Z own_EL s.vm h0 s.vm h0 := CHr.refl hCH
 have pre1 : own_Go p e below S0 (s₁.setTop (mkF m 5 #[vI p1, vI p2, vI p3, vI p4, vI (p1 &&& (3 : Int32)), .unset, .unset, .unset] [])) := by
  intro t kt
  refine pre0 t ?_
  refine XS.iloadN X0.here hx rfl (hb hby at_0) rfl ?_
  refine XS.iconst X0.here hx rfl (hb hby at_1) ?_
  refine XS.iand X0.here hx rfl (hb hby at_2) rfl ?_
  refine XS.istore X0.here hx rfl (hb hby at_3) rfl (l' := #[vI p1, vI p2, vI p3, vI p4, vI (p1 &&& (3 : Int32)), .unset, .unset, .unset]) rfl ?_
  exact kt
 rcases own_and3 p1 with hn | hn | hn | hn
 ·have pre2 : own_Go p e below S0 (s₁.setTop (mkF m 5 #[vI p1, vI p2, vI p3, vI p4, vI 0, .unset, .unset, .unset] [])) := by
   intro t kt
   refine pre1 t ?_
   rw [hn]
   exact kt
  have pre3 : own_Go p e below S0 (s₁.setTop (mkF m 7 #[vI p1, vI p2, vI p3, vI p4, vI 0, .unset, .unset, .unset] [(.int 0)])) := by
   intro t kt
   refine pre2 t ?_
   refine XS.iload X0.here hx rfl (hb hby at_5) rfl ?_
   exact kt
  obtain ⟨T4, h4, k4, X4, e4, E4, A4, Ax4, st4⟩ := newPE X0 hx hZ (H 0 rfl) e0 (g := (own_top pre3)) rfl (hb hby at_7) rfl (by decide) (cap := 0) (by decide) (by decide) (by decide) (by decide) (ad := "[B") (by decide)
  obtain ⟨b4, g4⟩ : ∃ z, z = h0.size := ⟨_, rfl⟩
  rw [← g4] at A4 Ax4 st4
  have ge5 : n0 ≤ b4 := Nat.le_trans Z0 (Nat.le_of_eq g4.symm)
  have zs6 : n0 ≤ h4.size := Nat.le_trans Z0 E4.1
  have V4 : Arv Z h4 b4 k4 .byte (0 : Int32) [] (.int 0) := (Arv.new A4 (by decide)).pad (pad_rep [] (.int 0) 0)
  have pre7 : own_Go p e below S0 (T4.setTop (mkF m 48 #[vI p1, vI p2, vI p3, vI p4, vI 0, vR b4, .unset, .unset] [(.ref b4)])) := by
   intro t kt
   refine pre3 t ?_
   refine st4 _ ?_
   refine XS.astore X4.here hx rfl (hb hby at_9) rfl rfl (l' := #[vI p1, vI p2, vI p3, vI p4, vI 0, vR b4, .unset, .unset]) rfl ?_
   refine XS.iload X4.here hx rfl (hb hby at_11) rfl ?_
   refine XS.ifYes X4.here hx rfl (pc0 := 13) (pc' := 22) rfl (hb hby at_13) rfl ((if0 _ _).trans (flt (by decide : ¬ ((0 : Int32) < (0 : Int32)))).2.2.2) (by decide) (by decide) ?_
   refine XS.iload X4.here hx rfl (hb hby at_22) rfl ?_
   refine XS.iconst X4.here hx rfl (hb hby at_24) ?_
   refine XS.icmpYes X4.here hx rfl (pc0 := 25) (pc' := 34) rfl (hb hby at_25) rfl (flt (by decide : ¬ ((1 : Int32) < (0 : Int32)))).2.2.2 (by decide) (by decide) ?_
   refine XS.iload X4.here hx rfl (hb hby at_34) rfl ?_
   refine XS.iconst X4.here hx rfl (hb hby at_36) ?_
   refine XS.icmpYes X4.here hx rfl (pc0 := 37) (pc' := 46) rfl (hb hby at_37) rfl (flt (by decide : ¬ ((2 : Int32) < (0 : Int32)))).2.2.2 (by decide) (by decide) ?_
   refine XS.aload X4.here hx rfl (hb hby at_46) rfl rfl ?_
   exact kt
  have f8 : Old Z n0 h4 := (O0.ext E4)
  obtain ⟨_, _, ⟨T9, L9, k9, n9⟩, -, X9, ⟨Lc9, hQ9, l9, y9, z9⟩, st9⟩ := Jvm.LawKit.callS X4 hx (y := own_m0) hown (mvT hZ (H 1 rfl)) (mvT hZ (H 2 rfl)) (mvT hZ (H 3 rfl)) (mvT hZ (H 4 rfl)) (by decide) (backOf (W := 0) (rmenc0 l Z a0 hw [] b4 wC wF k4 h4 n0 zs6 f8 qC qF V4) hZ (H 4 rfl) (H 3 rfl) (by decide) (by decide)) (g := (own_top pre7)) rfl (by rw [hml]; rfl) (argsL := [(.ref b4)]) (rest := []) (lenOf pd_21 rfl) rfl (by show 2 * 0 + _ ≤ _; exact Nat.le_of_eq rfl) (hb hby at_48) (fun _ _ => ⟨rfl, e4, (by decide : 1 + 4 ≤ _), (by decide : 0 + 17 ≤ _)⟩)
  dsimp only [Pt.U, Pt.locs, Pt.cells, Pt.slots] at X9 l9 y9 z9 st9 hQ9
  subst l9 y9 z9
  obtain ⟨b10, vb11, kb12, rfl, Nq9, K9, g13, g14⟩ := hQ9
  have N9 := Fr.app N0 Nq9
  have ne15 : b4 ≠ b10 := Nat.ne_of_lt (Nat.lt_of_lt_of_le Ax4.lt g13)
  have ge16 : n0 ≤ b10 := Nat.le_trans zs6 g13
  have zs17 : n0 ≤ T9.heap.size := Nat.le_trans zs6 K9.1
  have pre18 : own_Go p e below S0 (T9.setTop (mkF m 124 #[vI p1, vI p2, vI p3, vI p4, vI 0, vR b4, vR b10, vI 0] [(.ref b10), (.int 0)])) := by
   intro t kt
   refine pre7 t ?_
   refine st9 _ ?_
   show Steps p.tables e below (T9.setTop (mkF m 51 #[vI p1, vI p2, vI p3, vI p4, vI 0, vR b4, .unset, .unset] [(.ref b10)])) _
   refine XS.astore X9.here hx rfl (hb hby at_51) rfl rfl (l' := #[vI p1, vI p2, vI p3, vI p4, vI 0, vR b4, vR b10, .unset]) rfl ?_
   refine XS.iconst X9.here hx rfl (hb hby at_53) ?_
   refine XS.istore X9.here hx rfl (hb hby at_54) rfl (l' := #[vI p1, vI p2, vI p3, vI p4, vI 0, vR b4, vR b10, vI 0]) rfl ?_
   refine XS.iload X9.here hx rfl (hb hby at_56) rfl ?_
   refine XS.ifYes X9.here hx rfl (pc0 := 58) (pc' := 75) rfl (hb hby at_58) rfl ((if0 _ _).trans (flt (by decide : ¬ ((0 : Int32) < (0 : Int32)))).2.2.2) (by decide) (by decide) ?_
   refine XS.iload X9.here hx rfl (hb hby at_75) rfl ?_
   refine XS.iconst X9.here hx rfl (hb hby at_77) ?_
   refine XS.icmpYes X9.here hx rfl (pc0 := 78) (pc' := 95) rfl (hb hby at_78) rfl (flt (by decide : ¬ ((1 : Int32) < (0 : Int32)))).2.2.2 (by decide) (by decide) ?_
   refine XS.iload X9.here hx rfl (hb hby at_95) rfl ?_
   refine XS.iconst X9.here hx rfl (hb hby at_97) ?_
   refine XS.icmpYes X9.here hx rfl (pc0 := 98) (pc' := 115) rfl (hb hby at_98) rfl (flt (by decide : ¬ ((2 : Int32) < (0 : Int32)))).2.2.2 (by decide) (by decide) ?_
   show Steps p.tables e below (T9.setTop (mkF m 115 #[vI p1, vI p2, vI p3, vI p4, vI 0, vR b4, vR b10, vI 0] [])) _
   refine XS.iload X9.here hx rfl (hb hby at_115) rfl ?_
   refine XS.ifNo X9.here hx rfl (hb hby at_117) rfl ((if0 _ _).trans (flt (by decide : ¬ ((0 : Int32) < (0 : Int32)))).1) ?_
   refine XS.iload X9.here hx rfl (hb hby at_120) rfl ?_
   refine XS.aload X9.here hx rfl (hb hby at_122) rfl rfl ?_
   exact kt
  have f19 : Old Z n0 T9.heap := (f8.keep K9 all0)
  obtain ⟨cq20, kq20, qa20, qb20, qc20⟩ := isOf hZ rfl (g14).1
  obtain ⟨_, _, ⟨T20, L20, k20, n20⟩, -, X20, ⟨Lc20, hQ20, l20, y20, z20⟩, st20⟩ := X9.virtualBack hx (y := own_m19) (z := own_m19) hown (mvT hZ (H 79 rfl)) (mvT hZ (H 80 rfl)) (notFace_of_selects (args := #[]) (mvT hZ (H 82 rfl))) (mvT hZ (H 82 rfl)) (mvT hZ (H 81 rfl)) (by decide) (backOf (W := 1) (rmlenL l Z a0 hw [] b10 wC vb11 kb12 own_enc0 T9.heap n0 zs17 f19 qC g14) hZ (H 83 rfl) (H 21 rfl) (by decide) (by decide)) qa20 qc20 (g := (own_top pre18)) rfl (by rw [hml]; rfl) (Steps.refl _) (argsL := []) (rest := [(.int 0)]) (lenOf pd_10 rfl) rfl (by show 2 * 0 + _ ≤ _; exact Nat.le_of_eq rfl) (hb hby at_124) (fun _ _ => ⟨rfl, rfl, (by decide : 5 + 0 ≤ _), (by decide : 17 + 0 ≤ _)⟩)
  dsimp only [Pt.U, Pt.locs, Pt.cells, Pt.slots] at X20 l20 y20 z20 st20 hQ20
  subst l20 y20 z20
  obtain ⟨rfl, Nq20, eq20⟩ := hQ20
  have N20 := Fr.app N9 Nq20
  have pre21 : own_Go p e below S0 (T20.setTop (mkF m 135 #[vI p1, vI p2, vI p3, vI p4, vI 0, vR b4, vR b10, vI 0] [(.int 1)])) := by
   intro t kt
   refine pre18 t ?_
   refine st20.trans ?_
   show Steps p.tables e below (T20.setTop (mkF m 127 #[vI p1, vI p2, vI p3, vI p4, vI 0, vR b4, vR b10, vI 0] [(.int (own_len own_enc0)), (.int 0)])) _
   refine XS.icmpNo X20.here hx rfl (hb hby at_127) rfl (teq rfl).2 ?_
   refine XS.iconst X20.here hx rfl (hb hby at_130) ?_
   refine XS.goto X20.here hx rfl (pc0 := 131) (pc' := 135) rfl (hb hby at_131) (by decide) (by decide) ?_
   exact kt
  obtain ⟨fs, hr, hrun, hended, hW, hsame⟩ := X20.leave (v := some (.int 1)) (fun h => by rw [Bd.returns] at h; cases h)
  refine ⟨_, _, fin _ (pre21 _ ?_), hrun, hended, _, _, rfl, ?_, own_wideMono (ReturnedEndW.of_narrow ⟨_, rfl⟩ hW hsame) (by decide) (by decide)⟩
  ·exact retN X20 hx (t := .boolean) Bd.returns (by simp) (hb hby at_135) hr
  ·show Q0 Z p1 p2 p3 p4 wC wF h0 n0 _ T20.heap _
   rw [eq20]
   exact ⟨rfl, N20⟩
 ·have pre22 : own_Go p e below S0 (s₁.setTop (mkF m 5 #[vI p1, vI p2, vI p3, vI p4, vI 1, .unset, .unset, .unset] [])) := by
   intro t kt
   refine pre1 t ?_
   rw [hn]
   exact kt
  obtain ⟨al, kl, Tj23, lj23, hj23, vmj23, knj23, Xj23, Nj23, ej23, Kj23, hSj23, hkj23, hZ, hown, chj23, qj40, qj41, prej23⟩ : ∃ (al : Addr) (kl : ClassId) (Tj23 : State) (lj23 : List Loc) (hj23 : Heap) (vmj23 : Vm) (knj23 : Nat), Stand p l e room_1 (s.setVm vmj23) m #[(.int p1), (.int p2), (.int p3), (.int p4)] below meth c Tj23 lj23 1 1 ∧ Fr n0 lj23 ∧ Tj23.heap = hj23 ∧ Keep h0 hj23 [] ∧ s.Since vmj23 knj23 ∧ knj23 ≤ hj23.size ∧ Z.Warmed39 (s.setVm vmj23).vm ∧ (s.setVm vmj23).vm.findClass "com/example/permgrid/permgrid/PercentEncodingEncodePinLaw" = some m.cls ∧ CHr Z own_EL s.vm h0 vmj23 hj23 ∧ (h0.size ≤ al) ∧ Arv Z hj23 al kl .byte (1 : Int32) [(.int (nar .byte (p2.toInt8.toInt32)))] (.int 0) ∧ own_Go p e below S0 (Tj23.setTop (mkF m 46 #[vI p1, vI p2, vI p3, vI p4, vI 1, vR al, .unset, .unset] [])) := by
   have kjj23 : Keep h0 h0 [] := Keep.refl _ _
   have pre24 : own_Go p e below S0 (s₁.setTop (mkF m 7 #[vI p1, vI p2, vI p3, vI p4, vI 1, .unset, .unset, .unset] [(.int 1)])) := by
    intro t kt
    refine pre22 t ?_
    refine XS.iload X0.here hx rfl (hb hby at_5) rfl ?_
    exact kt
   obtain ⟨T25, h25, k25, X25, e25, E25, A25, Ax25, st25⟩ := newPE X0 hx hZ (H 0 rfl) e0 (g := (own_top pre24)) rfl (hb hby at_7) rfl (by decide) (cap := 1) (by decide) (by decide) (by decide) (by decide) (ad := "[B") (by decide)
   obtain ⟨b25, g25⟩ : ∃ z, z = h0.size := ⟨_, rfl⟩
   rw [← g25] at A25 Ax25 st25
   have ge26 : n0 ≤ b25 := Nat.le_trans Z0 (Nat.le_of_eq g25.symm)
   have sf27 : Safe Z own_EL s.vm h0 b25 := Safe.new (Nat.le_of_eq g25.symm)
   have sz28 : h0.size ≤ b25 := Nat.le_trans kjj23.1 (Nat.le_of_eq g25.symm)
   have zs29 : n0 ≤ h25.size := Nat.le_trans Z0 E25.1
   have kc30 : Keep h0 h25 [] := kjj23.ext E25
   have ch31 : CHr Z own_EL s.vm h0 s.vm h25 := ch0.trans (CHr.ext E25 ch0.1)
   have sf32 : Safe Z own_EL s.vm h25 b25 := Safe.ext E25 ch0.1 sf27
   have V25 : Arv Z h25 b25 k25 .byte (1 : Int32) [(.int 0)] (.int 0) := (Arv.new A25 (by decide)).pad (pad_rep [] (.int 0) 1)
   have pre33 : own_Go p e below S0 (T25.setTop (mkF m 21 #[vI p1, vI p2, vI p3, vI p4, vI 1, vR b25, .unset, .unset] [(.int (p2.toInt8.toInt32)), (.int 0), (.ref b25)])) := by
    intro t kt
    refine pre24 t ?_
    refine st25 _ ?_
    refine XS.astore X25.here hx rfl (hb hby at_9) rfl rfl (l' := #[vI p1, vI p2, vI p3, vI p4, vI 1, vR b25, .unset, .unset]) rfl ?_
    refine XS.iload X25.here hx rfl (hb hby at_11) rfl ?_
    refine XS.ifNo X25.here hx rfl (hb hby at_13) rfl ((if0 _ _).trans (tlt (by decide : (0 : Int32) < (1 : Int32))).2.2.2) ?_
    refine XS.aload X25.here hx rfl (hb hby at_16) rfl rfl ?_
    refine XS.iconst X25.here hx rfl (hb hby at_18) ?_
    refine XS.iloadN X25.here hx rfl (hb hby at_19) rfl ?_
    refine XS.i2b X25.here hx rfl (hb hby at_20) rfl ?_
    exact kt
   obtain ⟨cl34, Ar34, q34, Sz34, Ng34, Hs34, Gt34⟩ := id V25
   have hin34 : ¬ ((0 : Int32) < 0 ∨ cl34.slots.size ≤ ((0 : Int32)).toNatClampNeg) := inb_of Sz34 ⟨by decide, by decide⟩
   obtain ⟨T34, h34, X34, e34, W34, st34⟩ := stB X25 hx hZ e25 Ar34 (j := (0 : Int32)) hin34 (g := (own_top pre33)) rfl rfl (hb hby at_21)
   have N34 := Fr.snoc X34 N0 ge26
   have zs35 : n0 ≤ h34.size := Nat.le_trans zs29 (Keep.of_wr W34).1
   have kc36 : Keep h0 h34 [] := kc30.wr W34 (Or.inr sz28)
   have ch37 : CHr Z own_EL s.vm h0 s.vm h34 := ch31.trans (CHr.wr W34 sf32 ch31.1)
   have sf38 : Safe Z own_EL s.vm h34 b25 := Safe.wr W34 sf32 ch31.1 sf32
   have V34 : Arv Z h34 b25 k25 .byte (1 : Int32) [(.int (nar .byte (p2.toInt8.toInt32)))] (.int 0) := Arv.set Ar34 q34 Sz34 Ng34 Hs34 Gt34 (fits_nar_byte _) W34 0 rfl (Nat.le_of_ble_eq_true rfl)
   have pre39 : own_Go p e below S0 (T34.setTop (mkF m 46 #[vI p1, vI p2, vI p3, vI p4, vI 1, vR b25, .unset, .unset] [])) := by
    intro t kt
    refine pre33 t ?_
    refine st34 _ ?_
    refine XS.iload X34.here hx rfl (hb hby at_22) rfl ?_
    refine XS.iconst X34.here hx rfl (hb hby at_24) ?_
    refine XS.icmpYes X34.here hx rfl (pc0 := 25) (pc' := 34) rfl (hb hby at_25) rfl (flt (by decide : ¬ ((1 : Int32) < (1 : Int32)))).2.2.2 (by decide) (by decide) ?_
    refine XS.iload X34.here hx rfl (hb hby at_34) rfl ?_
    refine XS.iconst X34.here hx rfl (hb hby at_36) ?_
    refine XS.icmpYes X34.here hx rfl (pc0 := 37) (pc' := 46) rfl (hb hby at_37) rfl (flt (by decide : ¬ ((2 : Int32) < (1 : Int32)))).2.2.2 (by decide) (by decide) ?_
    exact kt
   exact ⟨b25, k25, T34, _, _, s.vm, _, (Stand.mono X34 (by decide) (by decide)), N34, e34, kc36, (own_since s 0), (Nat.zero_le _), hZ, hown, ch37, sz28, V34, pre39⟩
  have ge42 : n0 ≤ al := Nat.le_trans Z0 qj40
  have zs43 : n0 ≤ hj23.size := Nat.le_trans Z0 Kj23.1
  have pre44 : own_Go p e below S0 (Tj23.setTop (mkF m 48 #[vI p1, vI p2, vI p3, vI p4, vI 1, vR al, .unset, .unset] [(.ref al)])) := by
   intro t kt
   refine prej23 t ?_
   refine XS.aload Xj23.here hx rfl (hb hby at_46) rfl rfl ?_
   exact kt
  have f45 : Old Z n0 hj23 := (O0.keep Kj23 all0)
  obtain ⟨_, _, ⟨T46, L46, k46, n46⟩, -, X46, hSn46, hgn46, ⟨Lc46, hQ46, l46, y46, z46, cr46⟩, st46⟩ := callSS Xj23 hx (y := own_m0) hown (mvT hZ (H 1 rfl)) (mvT hZ (H 2 rfl)) (mvT hZ (H 3 rfl)) (mvT hZ (H 4 rfl)) (by decide) (own_backH (s := s) (vm0 := vmj23) (W := 0) (rmenc1 l Z a0 hw [] al wC wF kl (nar .byte (p2.toInt8.toInt32)) hj23 n0 zs43 f45 qC qF qj41) hZ (H 4 rfl) (H 3 rfl) (by decide) (by decide) (own_EW a0 Z hw) chj23.1 all0 all0) (g := (own_top pre44)) rfl (by rw [hml]; rfl) (argsL := [(.ref al)]) (rest := []) (lenOf pd_21 rfl) rfl (by show 2 * 0 + _ ≤ _; exact Nat.le_of_eq rfl) (hb hby at_48) (fun _ _ => ⟨rfl, ej23, (by decide : 1 + 9 ≤ _), (by decide : 1 + 140 ≤ _)⟩)
  dsimp only [Pt.U, Pt.locs, Pt.cells, Pt.slots] at X46 l46 y46 z46 st46 hQ46 hSn46 hgn46 cr46
  subst l46 y46 z46
  have hown := own_fc hown hSn46.1
  have hZ : Z.Warmed39 (s.setVm T46.vm).vm := State.Warmed39.trans (t := (s.setVm vmj23)) hZ hSn46.1
  have hSf46 := foldS (s := s) (vm0 := vmj23) hSj23 (by rw [ej23]; exact hkj23) hSn46 hgn46
  obtain ⟨b47, vb48, kb49, rfl, Nq46, K46, g50, g51⟩ := hQ46
  have N46 := Fr.app Nj23 Nq46
  have ne52 : al ≠ b47 := Nat.ne_of_lt (Nat.lt_of_lt_of_le qj41.lt g50)
  have ge53 : n0 ≤ b47 := Nat.le_trans zs43 g50
  have zs54 : n0 ≤ T46.heap.size := Nat.le_trans zs43 K46.1
  have ch55 : CHr Z own_EL s.vm h0 T46.vm T46.heap := chj23.trans (cr46)
  have pre56 : own_Go p e below S0 (T46.setTop (mkF m 70 #[vI p1, vI p2, vI p3, vI p4, vI 1, vR al, vR b47, vI 0] [(.int (p2 &&& (255 : Int32))), (.int 0), (.ref b47)])) := by
   intro t kt
   refine pre44 t ?_
   refine st46.trans ?_
   show Steps p.tables e below (T46.setTop (mkF m 51 #[vI p1, vI p2, vI p3, vI p4, vI 1, vR al, .unset, .unset] [(.ref b47)])) _
   refine XS.astore X46.here hx rfl (hb hby at_51) rfl rfl (l' := #[vI p1, vI p2, vI p3, vI p4, vI 1, vR al, vR b47, .unset]) rfl ?_
   refine XS.iconst X46.here hx rfl (hb hby at_53) ?_
   refine XS.istore X46.here hx rfl (hb hby at_54) rfl (l' := #[vI p1, vI p2, vI p3, vI p4, vI 1, vR al, vR b47, vI 0]) rfl ?_
   refine XS.iload X46.here hx rfl (hb hby at_56) rfl ?_
   refine XS.ifNo X46.here hx rfl (hb hby at_58) rfl ((if0 _ _).trans (tlt (by decide : (0 : Int32) < (1 : Int32))).2.2.2) ?_
   refine XS.aload X46.here hx rfl (hb hby at_61) rfl rfl ?_
   refine XS.iload X46.here hx rfl (hb hby at_63) rfl ?_
   refine XS.iloadN X46.here hx rfl (hb hby at_65) rfl ?_
   refine XS.sipush X46.here hx rfl (hb hby at_66) ?_
   refine XS.iand X46.here hx rfl (hb hby at_69) rfl ?_
   exact kt
  have f57 : Old Z n0 T46.heap := (f45.keep K46 all0)
  obtain ⟨_, _, ⟨T58, L58, k58, n58⟩, -, X58, ⟨Lc58, hQ58, l58, y58, z58⟩, st58⟩ := Jvm.LawKit.callS X46 hx (y := own_m2) hown (mvT hZ (H 164 rfl)) (mvT hZ (H 165 rfl)) (mvT hZ (H 166 rfl)) (mvT hZ (H 167 rfl)) (by decide) (backOf (W := 0) (rmseg l Z a0 hw [] b47 (0 : Int32) (p2 &&& (255 : Int32)) wC wF vb48 kb49 (own_enc1 (nar .byte (p2.toInt8.toInt32))) ([] : List Int32) ([] : List Int32) (nar .byte (p2.toInt8.toInt32)) T46.heap n0 zs54 f57 qC qF g51 (own_encL1 (nar .byte (p2.toInt8.toInt32))) (own_hcs10 (nar .byte (p2.toInt8.toInt32))) rfl (own_cbE _)) hZ (H 167 rfl) (H 166 rfl) (by decide) (by decide)) (g := (own_top pre56)) rfl (by rw [hml]; rfl) (argsL := [(.ref b47), (.int 0), (.int (p2 &&& (255 : Int32)))]) (rest := []) (lenOf pd_22 rfl) rfl (by show 2 * 0 + _ ≤ _; exact Nat.le_of_eq rfl) (hb hby at_70) (fun _ _ => ⟨rfl, rfl, (by decide : 10 + 0 ≤ _), (by decide : 141 + 0 ≤ _)⟩)
  dsimp only [Pt.U, Pt.locs, Pt.cells, Pt.slots] at X58 l58 y58 z58 st58 hQ58
  subst l58 y58 z58
  obtain ⟨rfl, Nq58, eq58⟩ := hQ58
  have N58 := Fr.app N46 Nq58
  have pre59 : own_Go p e below S0 (T58.setTop (mkF m 73 #[vI p1, vI p2, vI p3, vI p4, vI 1, vR al, vR b47, vI 0] [(.int ((0 : Int32) + (own_len (own_e1 (nar .byte (p2.toInt8.toInt32))))))])) := by
   intro t kt
   refine pre56 t ?_
   refine st58 _ ?_
   show Steps p.tables e below (T58.setTop (mkF m 73 #[vI p1, vI p2, vI p3, vI p4, vI 1, vR al, vR b47, vI 0] [(.int ((0 : Int32) + (own_len (own_e1 (nar .byte (p2.toInt8.toInt32))))))])) _
   exact kt
  obtain ⟨ps1, hps1⟩ : ∃ z, z = (own_len (own_e1 (nar .byte (p2.toInt8.toInt32)))) := ⟨_, rfl⟩
  have qps1 : ((0 : Int32) + (own_len (own_e1 (nar .byte (p2.toInt8.toInt32))))) = ps1 := by rw [hps1]; show (0 : Int32) + _ = _; exact Int32.zero_add _
  have pre60 : own_Go p e below S0 (T58.setTop (mkF m 73 #[vI p1, vI p2, vI p3, vI p4, vI 1, vR al, vR b47, vI 0] [(.int ps1)])) := by
   intro t kt
   refine pre59 t ?_
   rw [qps1]
   exact kt
  have pre61 : own_Go p e below S0 (T58.setTop (mkF m 124 #[vI p1, vI p2, vI p3, vI p4, vI 1, vR al, vR b47, vI ps1] [(.ref b47), (.int ps1)])) := by
   intro t kt
   refine pre60 t ?_
   refine XS.istore X58.here hx rfl (hb hby at_73) rfl (l' := #[vI p1, vI p2, vI p3, vI p4, vI 1, vR al, vR b47, vI ps1]) rfl ?_
   refine XS.iload X58.here hx rfl (hb hby at_75) rfl ?_
   refine XS.iconst X58.here hx rfl (hb hby at_77) ?_
   refine XS.icmpYes X58.here hx rfl (pc0 := 78) (pc' := 95) rfl (hb hby at_78) rfl (flt (by decide : ¬ ((1 : Int32) < (1 : Int32)))).2.2.2 (by decide) (by decide) ?_
   refine XS.iload X58.here hx rfl (hb hby at_95) rfl ?_
   refine XS.iconst X58.here hx rfl (hb hby at_97) ?_
   refine XS.icmpYes X58.here hx rfl (pc0 := 98) (pc' := 115) rfl (hb hby at_98) rfl (flt (by decide : ¬ ((2 : Int32) < (1 : Int32)))).2.2.2 (by decide) (by decide) ?_
   refine XS.iload X58.here hx rfl (hb hby at_115) rfl ?_
   refine XS.ifNo X58.here hx rfl (hb hby at_117) rfl ((if0 _ _).trans (flt (by rw [hps1]; exact own_lenNN _ (by have q0 := own_e1L (nar .byte (p2.toInt8.toInt32)); (try simp only [List.length_append]); omega))).1) ?_
   refine XS.iload X58.here hx rfl (hb hby at_120) rfl ?_
   refine XS.aload X58.here hx rfl (hb hby at_122) rfl rfl ?_
   exact kt
  obtain ⟨cq62, kq62, qa62, qb62, qc62⟩ := isOf hZ eq58 (g51).1
  obtain ⟨_, _, ⟨T62, L62, k62, n62⟩, -, X62, ⟨Lc62, hQ62, l62, y62, z62⟩, st62⟩ := X58.virtualBack hx (y := own_m19) (z := own_m19) hown (mvT hZ (H 79 rfl)) (mvT hZ (H 80 rfl)) (notFace_of_selects (args := #[]) (mvT hZ (H 82 rfl))) (mvT hZ (H 82 rfl)) (mvT hZ (H 81 rfl)) (by decide) (backOf (W := 1) (rmlenL l Z a0 hw [] b47 wC vb48 kb49 (own_enc1 (nar .byte (p2.toInt8.toInt32))) T46.heap n0 zs54 f57 qC g51) hZ (H 83 rfl) (H 21 rfl) (by decide) (by decide)) qa62 qc62 (g := (own_top pre61)) rfl (by rw [hml]; rfl) (Steps.refl _) (argsL := []) (rest := [(.int ps1)]) (lenOf pd_10 rfl) rfl (by show 2 * 0 + _ ≤ _; exact Nat.le_of_eq rfl) (hb hby at_124) (fun _ _ => ⟨rfl, eq58, (by decide : 10 + 0 ≤ _), (by decide : 141 + 0 ≤ _)⟩)
  dsimp only [Pt.U, Pt.locs, Pt.cells, Pt.slots] at X62 l62 y62 z62 st62 hQ62
  subst l62 y62 z62
  obtain ⟨rfl, Nq62, eq62⟩ := hQ62
  have N62 := Fr.app N58 Nq62
  have pre63 : own_Go p e below S0 (T62.setTop (mkF m 135 #[vI p1, vI p2, vI p3, vI p4, vI 1, vR al, vR b47, vI ps1] [(.int 1)])) := by
   intro t kt
   refine pre61 t ?_
   refine st62.trans ?_
   show Steps p.tables e below (T62.setTop (mkF m 127 #[vI p1, vI p2, vI p3, vI p4, vI 1, vR al, vR b47, vI ps1] [(.int (own_len (own_enc1 (nar .byte (p2.toInt8.toInt32))))), (.int ps1)])) _
   refine XS.icmpNo X62.here hx rfl (hb hby at_127) rfl (teq (hps1.trans (congrArg own_len (own_fin1 _)))).2 ?_
   refine XS.iconst X62.here hx rfl (hb hby at_130) ?_
   refine XS.goto X62.here hx rfl (pc0 := 131) (pc' := 135) rfl (hb hby at_131) (by decide) (by decide) ?_
   exact kt
  obtain ⟨fs, hr, hrun, hended, hRW⟩ := Stand.leaveW (s := s) (vm₁ := T46.vm) X62 hSf46 (by rw [eq62]; exact (Nat.le_refl _)) (v := some (.int 1)) (fun h => by rw [Bd.returns] at h; cases h)
  refine ⟨_, _, fin _ (pre63 _ ?_), hrun, hended, _, _, rfl, ?_, own_wideMono hRW (by decide) (by decide)⟩
  ·exact retN X62 hx (t := .boolean) Bd.returns (by simp) (hb hby at_135) hr
  ·show Q0 Z p1 p2 p3 p4 wC wF h0 n0 _ T62.heap _
   rw [eq62]
   exact ⟨rfl, N62⟩
 ·have pre64 : own_Go p e below S0 (s₁.setTop (mkF m 5 #[vI p1, vI p2, vI p3, vI p4, vI 2, .unset, .unset, .unset] [])) := by
   intro t kt
   refine pre1 t ?_
   rw [hn]
   exact kt
  obtain ⟨al, kl, Tj65, lj65, hj65, vmj65, knj65, Xj65, Nj65, ej65, Kj65, hSj65, hkj65, hZ, hown, chj65, qj88, qj89, prej65⟩ : ∃ (al : Addr) (kl : ClassId) (Tj65 : State) (lj65 : List Loc) (hj65 : Heap) (vmj65 : Vm) (knj65 : Nat), Stand p l e room_1 (s.setVm vmj65) m #[(.int p1), (.int p2), (.int p3), (.int p4)] below meth c Tj65 lj65 1 2 ∧ Fr n0 lj65 ∧ Tj65.heap = hj65 ∧ Keep h0 hj65 [] ∧ s.Since vmj65 knj65 ∧ knj65 ≤ hj65.size ∧ Z.Warmed39 (s.setVm vmj65).vm ∧ (s.setVm vmj65).vm.findClass "com/example/permgrid/permgrid/PercentEncodingEncodePinLaw" = some m.cls ∧ CHr Z own_EL s.vm h0 vmj65 hj65 ∧ (h0.size ≤ al) ∧ Arv Z hj65 al kl .byte (2 : Int32) [(.int (nar .byte (p2.toInt8.toInt32))), (.int (nar .byte (p3.toInt8.toInt32)))] (.int 0) ∧ own_Go p e below S0 (Tj65.setTop (mkF m 46 #[vI p1, vI p2, vI p3, vI p4, vI 2, vR al, .unset, .unset] [])) := by
   have kjj65 : Keep h0 h0 [] := Keep.refl _ _
   have pre66 : own_Go p e below S0 (s₁.setTop (mkF m 7 #[vI p1, vI p2, vI p3, vI p4, vI 2, .unset, .unset, .unset] [(.int 2)])) := by
    intro t kt
    refine pre64 t ?_
    refine XS.iload X0.here hx rfl (hb hby at_5) rfl ?_
    exact kt
   obtain ⟨T67, h67, k67, X67, e67, E67, A67, Ax67, st67⟩ := newPE X0 hx hZ (H 0 rfl) e0 (g := (own_top pre66)) rfl (hb hby at_7) rfl (by decide) (cap := 2) (by decide) (by decide) (by decide) (by decide) (ad := "[B") (by decide)
   obtain ⟨b67, g67⟩ : ∃ z, z = h0.size := ⟨_, rfl⟩
   rw [← g67] at A67 Ax67 st67
   have ge68 : n0 ≤ b67 := Nat.le_trans Z0 (Nat.le_of_eq g67.symm)
   have sf69 : Safe Z own_EL s.vm h0 b67 := Safe.new (Nat.le_of_eq g67.symm)
   have sz70 : h0.size ≤ b67 := Nat.le_trans kjj65.1 (Nat.le_of_eq g67.symm)
   have zs71 : n0 ≤ h67.size := Nat.le_trans Z0 E67.1
   have kc72 : Keep h0 h67 [] := kjj65.ext E67
   have ch73 : CHr Z own_EL s.vm h0 s.vm h67 := ch0.trans (CHr.ext E67 ch0.1)
   have sf74 : Safe Z own_EL s.vm h67 b67 := Safe.ext E67 ch0.1 sf69
   have V67 : Arv Z h67 b67 k67 .byte (2 : Int32) [(.int 0), (.int 0)] (.int 0) := (Arv.new A67 (by decide)).pad (pad_rep [] (.int 0) 2)
   have pre75 : own_Go p e below S0 (T67.setTop (mkF m 21 #[vI p1, vI p2, vI p3, vI p4, vI 2, vR b67, .unset, .unset] [(.int (p2.toInt8.toInt32)), (.int 0), (.ref b67)])) := by
    intro t kt
    refine pre66 t ?_
    refine st67 _ ?_
    refine XS.astore X67.here hx rfl (hb hby at_9) rfl rfl (l' := #[vI p1, vI p2, vI p3, vI p4, vI 2, vR b67, .unset, .unset]) rfl ?_
    refine XS.iload X67.here hx rfl (hb hby at_11) rfl ?_
    refine XS.ifNo X67.here hx rfl (hb hby at_13) rfl ((if0 _ _).trans (tlt (by decide : (0 : Int32) < (2 : Int32))).2.2.2) ?_
    refine XS.aload X67.here hx rfl (hb hby at_16) rfl rfl ?_
    refine XS.iconst X67.here hx rfl (hb hby at_18) ?_
    refine XS.iloadN X67.here hx rfl (hb hby at_19) rfl ?_
    refine XS.i2b X67.here hx rfl (hb hby at_20) rfl ?_
    exact kt
   obtain ⟨cl76, Ar76, q76, Sz76, Ng76, Hs76, Gt76⟩ := id V67
   have hin76 : ¬ ((0 : Int32) < 0 ∨ cl76.slots.size ≤ ((0 : Int32)).toNatClampNeg) := inb_of Sz76 ⟨by decide, by decide⟩
   obtain ⟨T76, h76, X76, e76, W76, st76⟩ := stB X67 hx hZ e67 Ar76 (j := (0 : Int32)) hin76 (g := (own_top pre75)) rfl rfl (hb hby at_21)
   have N76 := Fr.snoc X76 N0 ge68
   have zs77 : n0 ≤ h76.size := Nat.le_trans zs71 (Keep.of_wr W76).1
   have kc78 : Keep h0 h76 [] := kc72.wr W76 (Or.inr sz70)
   have ch79 : CHr Z own_EL s.vm h0 s.vm h76 := ch73.trans (CHr.wr W76 sf74 ch73.1)
   have sf80 : Safe Z own_EL s.vm h76 b67 := Safe.wr W76 sf74 ch73.1 sf74
   have V76 : Arv Z h76 b67 k67 .byte (2 : Int32) [(.int (nar .byte (p2.toInt8.toInt32))), (.int 0)] (.int 0) := Arv.set Ar76 q76 Sz76 Ng76 Hs76 Gt76 (fits_nar_byte _) W76 0 rfl (Nat.le_of_ble_eq_true rfl)
   have pre81 : own_Go p e below S0 (T76.setTop (mkF m 33 #[vI p1, vI p2, vI p3, vI p4, vI 2, vR b67, .unset, .unset] [(.int (p3.toInt8.toInt32)), (.int 1), (.ref b67)])) := by
    intro t kt
    refine pre75 t ?_
    refine st76 _ ?_
    refine XS.iload X76.here hx rfl (hb hby at_22) rfl ?_
    refine XS.iconst X76.here hx rfl (hb hby at_24) ?_
    refine XS.icmpNo X76.here hx rfl (hb hby at_25) rfl (tlt (by decide : (1 : Int32) < (2 : Int32))).2.2.2 ?_
    refine XS.aload X76.here hx rfl (hb hby at_28) rfl rfl ?_
    refine XS.iconst X76.here hx rfl (hb hby at_30) ?_
    refine XS.iloadN X76.here hx rfl (hb hby at_31) rfl ?_
    refine XS.i2b X76.here hx rfl (hb hby at_32) rfl ?_
    exact kt
   obtain ⟨cl82, Ar82, q82, Sz82, Ng82, Hs82, Gt82⟩ := id V76
   have hin82 : ¬ ((1 : Int32) < 0 ∨ cl82.slots.size ≤ ((1 : Int32)).toNatClampNeg) := inb_of Sz82 ⟨by decide, by decide⟩
   obtain ⟨T82, h82, X82, e82, W82, st82⟩ := stB X76 hx hZ e76 Ar82 (j := (1 : Int32)) hin82 (g := (own_top pre81)) rfl rfl (hb hby at_33)
   have N82 := Fr.snoc X82 N76 ge68
   have zs83 : n0 ≤ h82.size := Nat.le_trans zs77 (Keep.of_wr W82).1
   have kc84 : Keep h0 h82 [] := kc78.wr W82 (Or.inr sz70)
   have ch85 : CHr Z own_EL s.vm h0 s.vm h82 := ch79.trans (CHr.wr W82 sf80 ch79.1)
   have sf86 : Safe Z own_EL s.vm h82 b67 := Safe.wr W82 sf80 ch79.1 sf80
   have V82 : Arv Z h82 b67 k67 .byte (2 : Int32) [(.int (nar .byte (p2.toInt8.toInt32))), (.int (nar .byte (p3.toInt8.toInt32)))] (.int 0) := Arv.set Ar82 q82 Sz82 Ng82 Hs82 Gt82 (fits_nar_byte _) W82 1 rfl (Nat.le_of_ble_eq_true rfl)
   have pre87 : own_Go p e below S0 (T82.setTop (mkF m 46 #[vI p1, vI p2, vI p3, vI p4, vI 2, vR b67, .unset, .unset] [])) := by
    intro t kt
    refine pre81 t ?_
    refine st82 _ ?_
    refine XS.iload X82.here hx rfl (hb hby at_34) rfl ?_
    refine XS.iconst X82.here hx rfl (hb hby at_36) ?_
    refine XS.icmpYes X82.here hx rfl (pc0 := 37) (pc' := 46) rfl (hb hby at_37) rfl (flt (by decide : ¬ ((2 : Int32) < (2 : Int32)))).2.2.2 (by decide) (by decide) ?_
    exact kt
   exact ⟨b67, k67, T82, _, _, s.vm, _, (Stand.mono X82 (by decide) (by decide)), N82, e82, kc84, (own_since s 0), (Nat.zero_le _), hZ, hown, ch85, sz70, V82, pre87⟩
  have ge90 : n0 ≤ al := Nat.le_trans Z0 qj88
  have zs91 : n0 ≤ hj65.size := Nat.le_trans Z0 Kj65.1
  have pre92 : own_Go p e below S0 (Tj65.setTop (mkF m 48 #[vI p1, vI p2, vI p3, vI p4, vI 2, vR al, .unset, .unset] [(.ref al)])) := by
   intro t kt
   refine prej65 t ?_
   refine XS.aload Xj65.here hx rfl (hb hby at_46) rfl rfl ?_
   exact kt
  have f93 : Old Z n0 hj65 := (O0.keep Kj65 all0)
  obtain ⟨_, _, ⟨T94, L94, k94, n94⟩, -, X94, hSn94, hgn94, ⟨Lc94, hQ94, l94, y94, z94, cr94⟩, st94⟩ := callSS Xj65 hx (y := own_m0) hown (mvT hZ (H 1 rfl)) (mvT hZ (H 2 rfl)) (mvT hZ (H 3 rfl)) (mvT hZ (H 4 rfl)) (by decide) (own_backH (s := s) (vm0 := vmj65) (W := 0) (rmenc2 l Z a0 hw [] al wC wF kl (nar .byte (p2.toInt8.toInt32)) (nar .byte (p3.toInt8.toInt32)) hj65 n0 zs91 f93 qC qF qj89) hZ (H 4 rfl) (H 3 rfl) (by decide) (by decide) (own_EW a0 Z hw) chj65.1 all0 all0) (g := (own_top pre92)) rfl (by rw [hml]; rfl) (argsL := [(.ref al)]) (rest := []) (lenOf pd_21 rfl) rfl (by show 2 * 0 + _ ≤ _; exact Nat.le_of_eq rfl) (hb hby at_48) (fun _ _ => ⟨rfl, ej65, (by decide : 1 + 14 ≤ _), (by decide : 2 + 263 ≤ _)⟩)
  dsimp only [Pt.U, Pt.locs, Pt.cells, Pt.slots] at X94 l94 y94 z94 st94 hQ94 hSn94 hgn94 cr94
  subst l94 y94 z94
  have hown := own_fc hown hSn94.1
  have hZ : Z.Warmed39 (s.setVm T94.vm).vm := State.Warmed39.trans (t := (s.setVm vmj65)) hZ hSn94.1
  have hSf94 := foldS (s := s) (vm0 := vmj65) hSj65 (by rw [ej65]; exact hkj65) hSn94 hgn94
  obtain ⟨b95, vb96, kb97, rfl, Nq94, K94, g98, g99⟩ := hQ94
  have N94 := Fr.app Nj65 Nq94
  have ne100 : al ≠ b95 := Nat.ne_of_lt (Nat.lt_of_lt_of_le qj89.lt g98)
  have ge101 : n0 ≤ b95 := Nat.le_trans zs91 g98
  have zs102 : n0 ≤ T94.heap.size := Nat.le_trans zs91 K94.1
  have ch103 : CHr Z own_EL s.vm h0 T94.vm T94.heap := chj65.trans (cr94)
  have pre104 : own_Go p e below S0 (T94.setTop (mkF m 70 #[vI p1, vI p2, vI p3, vI p4, vI 2, vR al, vR b95, vI 0] [(.int (p2 &&& (255 : Int32))), (.int 0), (.ref b95)])) := by
   intro t kt
   refine pre92 t ?_
   refine st94.trans ?_
   show Steps p.tables e below (T94.setTop (mkF m 51 #[vI p1, vI p2, vI p3, vI p4, vI 2, vR al, .unset, .unset] [(.ref b95)])) _
   refine XS.astore X94.here hx rfl (hb hby at_51) rfl rfl (l' := #[vI p1, vI p2, vI p3, vI p4, vI 2, vR al, vR b95, .unset]) rfl ?_
   refine XS.iconst X94.here hx rfl (hb hby at_53) ?_
   refine XS.istore X94.here hx rfl (hb hby at_54) rfl (l' := #[vI p1, vI p2, vI p3, vI p4, vI 2, vR al, vR b95, vI 0]) rfl ?_
   refine XS.iload X94.here hx rfl (hb hby at_56) rfl ?_
   refine XS.ifNo X94.here hx rfl (hb hby at_58) rfl ((if0 _ _).trans (tlt (by decide : (0 : Int32) < (2 : Int32))).2.2.2) ?_
   refine XS.aload X94.here hx rfl (hb hby at_61) rfl rfl ?_
   refine XS.iload X94.here hx rfl (hb hby at_63) rfl ?_
   refine XS.iloadN X94.here hx rfl (hb hby at_65) rfl ?_
   refine XS.sipush X94.here hx rfl (hb hby at_66) ?_
   refine XS.iand X94.here hx rfl (hb hby at_69) rfl ?_
   exact kt
  have f105 : Old Z n0 T94.heap := (f93.keep K94 all0)
  obtain ⟨_, _, ⟨T106, L106, k106, n106⟩, -, X106, ⟨Lc106, hQ106, l106, y106, z106⟩, st106⟩ := Jvm.LawKit.callS X94 hx (y := own_m2) hown (mvT hZ (H 164 rfl)) (mvT hZ (H 165 rfl)) (mvT hZ (H 166 rfl)) (mvT hZ (H 167 rfl)) (by decide) (backOf (W := 0) (rmseg l Z a0 hw [] b95 (0 : Int32) (p2 &&& (255 : Int32)) wC wF vb96 kb97 (own_enc2 (nar .byte (p2.toInt8.toInt32)) (nar .byte (p3.toInt8.toInt32))) ([] : List Int32) (own_e1 (nar .byte (p3.toInt8.toInt32))) (nar .byte (p2.toInt8.toInt32)) T94.heap n0 zs102 f105 qC qF g99 (own_encL2 (nar .byte (p2.toInt8.toInt32)) (nar .byte (p3.toInt8.toInt32))) (own_hcs20 (nar .byte (p2.toInt8.toInt32)) (nar .byte (p3.toInt8.toInt32))) rfl (own_cbE _)) hZ (H 167 rfl) (H 166 rfl) (by decide) (by decide)) (g := (own_top pre104)) rfl (by rw [hml]; rfl) (argsL := [(.ref b95), (.int 0), (.int (p2 &&& (255 : Int32)))]) (rest := []) (lenOf pd_22 rfl) rfl (by show 2 * 0 + _ ≤ _; exact Nat.le_of_eq rfl) (hb hby at_70) (fun _ _ => ⟨rfl, rfl, (by decide : 15 + 0 ≤ _), (by decide : 265 + 0 ≤ _)⟩)
  dsimp only [Pt.U, Pt.locs, Pt.cells, Pt.slots] at X106 l106 y106 z106 st106 hQ106
  subst l106 y106 z106
  obtain ⟨rfl, Nq106, eq106⟩ := hQ106
  have N106 := Fr.app N94 Nq106
  have pre107 : own_Go p e below S0 (T106.setTop (mkF m 73 #[vI p1, vI p2, vI p3, vI p4, vI 2, vR al, vR b95, vI 0] [(.int ((0 : Int32) + (own_len (own_e1 (nar .byte (p2.toInt8.toInt32))))))])) := by
   intro t kt
   refine pre104 t ?_
   refine st106 _ ?_
   show Steps p.tables e below (T106.setTop (mkF m 73 #[vI p1, vI p2, vI p3, vI p4, vI 2, vR al, vR b95, vI 0] [(.int ((0 : Int32) + (own_len (own_e1 (nar .byte (p2.toInt8.toInt32))))))])) _
   exact kt
  obtain ⟨ps1, hps1⟩ : ∃ z, z = (own_len (own_e1 (nar .byte (p2.toInt8.toInt32)))) := ⟨_, rfl⟩
  have qps1 : ((0 : Int32) + (own_len (own_e1 (nar .byte (p2.toInt8.toInt32))))) = ps1 := by rw [hps1]; show (0 : Int32) + _ = _; exact Int32.zero_add _
  have pre108 : own_Go p e below S0 (T106.setTop (mkF m 73 #[vI p1, vI p2, vI p3, vI p4, vI 2, vR al, vR b95, vI 0] [(.int ps1)])) := by
   intro t kt
   refine pre107 t ?_
   rw [qps1]
   exact kt
  have pre109 : own_Go p e below S0 (T106.setTop (mkF m 90 #[vI p1, vI p2, vI p3, vI p4, vI 2, vR al, vR b95, vI ps1] [(.int (p3 &&& (255 : Int32))), (.int ps1), (.ref b95)])) := by
   intro t kt
   refine pre108 t ?_
   refine XS.istore X106.here hx rfl (hb hby at_73) rfl (l' := #[vI p1, vI p2, vI p3, vI p4, vI 2, vR al, vR b95, vI ps1]) rfl ?_
   refine XS.iload X106.here hx rfl (hb hby at_75) rfl ?_
   refine XS.iconst X106.here hx rfl (hb hby at_77) ?_
   refine XS.icmpNo X106.here hx rfl (hb hby at_78) rfl (tlt (by decide : (1 : Int32) < (2 : Int32))).2.2.2 ?_
   refine XS.aload X106.here hx rfl (hb hby at_81) rfl rfl ?_
   refine XS.iload X106.here hx rfl (hb hby at_83) rfl ?_
   refine XS.iloadN X106.here hx rfl (hb hby at_85) rfl ?_
   refine XS.sipush X106.here hx rfl (hb hby at_86) ?_
   refine XS.iand X106.here hx rfl (hb hby at_89) rfl ?_
   exact kt
  obtain ⟨_, _, ⟨T110, L110, k110, n110⟩, -, X110, ⟨Lc110, hQ110, l110, y110, z110⟩, st110⟩ := Jvm.LawKit.callS X106 hx (y := own_m2) hown (mvT hZ (H 164 rfl)) (mvT hZ (H 165 rfl)) (mvT hZ (H 166 rfl)) (mvT hZ (H 167 rfl)) (by decide) (backOf (W := 0) (rmseg l Z a0 hw [] b95 ps1 (p3 &&& (255 : Int32)) wC wF vb96 kb97 (own_enc2 (nar .byte (p2.toInt8.toInt32)) (nar .byte (p3.toInt8.toInt32))) (own_e1 (nar .byte (p2.toInt8.toInt32))) ([] : List Int32) (nar .byte (p3.toInt8.toInt32)) T94.heap n0 zs102 f105 qC qF g99 (own_encL2 (nar .byte (p2.toInt8.toInt32)) (nar .byte (p3.toInt8.toInt32))) (own_hcs21 (nar .byte (p2.toInt8.toInt32)) (nar .byte (p3.toInt8.toInt32))) hps1 (own_cbE _)) hZ (H 167 rfl) (H 166 rfl) (by decide) (by decide)) (g := (own_top pre109)) rfl (by rw [hml]; rfl) (argsL := [(.ref b95), (.int ps1), (.int (p3 &&& (255 : Int32)))]) (rest := []) (lenOf pd_22 rfl) rfl (by show 2 * 0 + _ ≤ _; exact Nat.le_of_eq rfl) (hb hby at_90) (fun _ _ => ⟨rfl, eq106, (by decide : 15 + 0 ≤ _), (by decide : 265 + 0 ≤ _)⟩)
  dsimp only [Pt.U, Pt.locs, Pt.cells, Pt.slots] at X110 l110 y110 z110 st110 hQ110
  subst l110 y110 z110
  obtain ⟨rfl, Nq110, eq110⟩ := hQ110
  have N110 := Fr.app N106 Nq110
  have pre111 : own_Go p e below S0 (T110.setTop (mkF m 93 #[vI p1, vI p2, vI p3, vI p4, vI 2, vR al, vR b95, vI ps1] [(.int (ps1 + (own_len (own_e1 (nar .byte (p3.toInt8.toInt32))))))])) := by
   intro t kt
   refine pre109 t ?_
   refine st110 _ ?_
   show Steps p.tables e below (T110.setTop (mkF m 93 #[vI p1, vI p2, vI p3, vI p4, vI 2, vR al, vR b95, vI ps1] [(.int (ps1 + (own_len (own_e1 (nar .byte (p3.toInt8.toInt32))))))])) _
   exact kt
  obtain ⟨ps2, hps2⟩ : ∃ z, z = (own_len ((own_e1 (nar .byte (p2.toInt8.toInt32))) ++ (own_e1 (nar .byte (p3.toInt8.toInt32))))) := ⟨_, rfl⟩
  have qps2 : (ps1 + (own_len (own_e1 (nar .byte (p3.toInt8.toInt32))))) = ps2 := by rw [hps2, hps1]; exact own_lenA _ _ (by have q0 := own_e1L (nar .byte (p2.toInt8.toInt32)); have q1 := own_e1L (nar .byte (p3.toInt8.toInt32)); (try simp only [List.length_append]); omega)
  have pre112 : own_Go p e below S0 (T110.setTop (mkF m 93 #[vI p1, vI p2, vI p3, vI p4, vI 2, vR al, vR b95, vI ps1] [(.int ps2)])) := by
   intro t kt
   refine pre111 t ?_
   rw [qps2]
   exact kt
  have pre113 : own_Go p e below S0 (T110.setTop (mkF m 124 #[vI p1, vI p2, vI p3, vI p4, vI 2, vR al, vR b95, vI ps2] [(.ref b95), (.int ps2)])) := by
   intro t kt
   refine pre112 t ?_
   refine XS.istore X110.here hx rfl (hb hby at_93) rfl (l' := #[vI p1, vI p2, vI p3, vI p4, vI 2, vR al, vR b95, vI ps2]) rfl ?_
   refine XS.iload X110.here hx rfl (hb hby at_95) rfl ?_
   refine XS.iconst X110.here hx rfl (hb hby at_97) ?_
   refine XS.icmpYes X110.here hx rfl (pc0 := 98) (pc' := 115) rfl (hb hby at_98) rfl (flt (by decide : ¬ ((2 : Int32) < (2 : Int32)))).2.2.2 (by decide) (by decide) ?_
   refine XS.iload X110.here hx rfl (hb hby at_115) rfl ?_
   refine XS.ifNo X110.here hx rfl (hb hby at_117) rfl ((if0 _ _).trans (flt (by rw [hps2]; exact own_lenNN _ (by have q0 := own_e1L (nar .byte (p2.toInt8.toInt32)); have q1 := own_e1L (nar .byte (p3.toInt8.toInt32)); (try simp only [List.length_append]); omega))).1) ?_
   refine XS.iload X110.here hx rfl (hb hby at_120) rfl ?_
   refine XS.aload X110.here hx rfl (hb hby at_122) rfl rfl ?_
   exact kt
  obtain ⟨cq114, kq114, qa114, qb114, qc114⟩ := isOf hZ eq110 (g99).1
  obtain ⟨_, _, ⟨T114, L114, k114, n114⟩, -, X114, ⟨Lc114, hQ114, l114, y114, z114⟩, st114⟩ := X110.virtualBack hx (y := own_m19) (z := own_m19) hown (mvT hZ (H 79 rfl)) (mvT hZ (H 80 rfl)) (notFace_of_selects (args := #[]) (mvT hZ (H 82 rfl))) (mvT hZ (H 82 rfl)) (mvT hZ (H 81 rfl)) (by decide) (backOf (W := 1) (rmlenL l Z a0 hw [] b95 wC vb96 kb97 (own_enc2 (nar .byte (p2.toInt8.toInt32)) (nar .byte (p3.toInt8.toInt32))) T94.heap n0 zs102 f105 qC g99) hZ (H 83 rfl) (H 21 rfl) (by decide) (by decide)) qa114 qc114 (g := (own_top pre113)) rfl (by rw [hml]; rfl) (Steps.refl _) (argsL := []) (rest := [(.int ps2)]) (lenOf pd_10 rfl) rfl (by show 2 * 0 + _ ≤ _; exact Nat.le_of_eq rfl) (hb hby at_124) (fun _ _ => ⟨rfl, eq110, (by decide : 15 + 0 ≤ _), (by decide : 265 + 0 ≤ _)⟩)
  dsimp only [Pt.U, Pt.locs, Pt.cells, Pt.slots] at X114 l114 y114 z114 st114 hQ114
  subst l114 y114 z114
  obtain ⟨rfl, Nq114, eq114⟩ := hQ114
  have N114 := Fr.app N110 Nq114
  have pre115 : own_Go p e below S0 (T114.setTop (mkF m 135 #[vI p1, vI p2, vI p3, vI p4, vI 2, vR al, vR b95, vI ps2] [(.int 1)])) := by
   intro t kt
   refine pre113 t ?_
   refine st114.trans ?_
   show Steps p.tables e below (T114.setTop (mkF m 127 #[vI p1, vI p2, vI p3, vI p4, vI 2, vR al, vR b95, vI ps2] [(.int (own_len (own_enc2 (nar .byte (p2.toInt8.toInt32)) (nar .byte (p3.toInt8.toInt32))))), (.int ps2)])) _
   refine XS.icmpNo X114.here hx rfl (hb hby at_127) rfl (teq (hps2.trans (congrArg own_len (own_fin2 _ _)))).2 ?_
   refine XS.iconst X114.here hx rfl (hb hby at_130) ?_
   refine XS.goto X114.here hx rfl (pc0 := 131) (pc' := 135) rfl (hb hby at_131) (by decide) (by decide) ?_
   exact kt
  obtain ⟨fs, hr, hrun, hended, hRW⟩ := Stand.leaveW (s := s) (vm₁ := T94.vm) X114 hSf94 (by rw [eq114]; exact (Nat.le_refl _)) (v := some (.int 1)) (fun h => by rw [Bd.returns] at h; cases h)
  refine ⟨_, _, fin _ (pre115 _ ?_), hrun, hended, _, _, rfl, ?_, own_wideMono hRW (by decide) (by decide)⟩
  ·exact retN X114 hx (t := .boolean) Bd.returns (by simp) (hb hby at_135) hr
  ·show Q0 Z p1 p2 p3 p4 wC wF h0 n0 _ T114.heap _
   rw [eq114]
   exact ⟨rfl, N114⟩
 ·have pre116 : own_Go p e below S0 (s₁.setTop (mkF m 5 #[vI p1, vI p2, vI p3, vI p4, vI 3, .unset, .unset, .unset] [])) := by
   intro t kt
   refine pre1 t ?_
   rw [hn]
   exact kt
  obtain ⟨al, kl, Tj117, lj117, hj117, vmj117, knj117, Xj117, Nj117, ej117, Kj117, hSj117, hkj117, hZ, hown, chj117, qj146, qj147, prej117⟩ : ∃ (al : Addr) (kl : ClassId) (Tj117 : State) (lj117 : List Loc) (hj117 : Heap) (vmj117 : Vm) (knj117 : Nat), Stand p l e room_1 (s.setVm vmj117) m #[(.int p1), (.int p2), (.int p3), (.int p4)] below meth c Tj117 lj117 1 3 ∧ Fr n0 lj117 ∧ Tj117.heap = hj117 ∧ Keep h0 hj117 [] ∧ s.Since vmj117 knj117 ∧ knj117 ≤ hj117.size ∧ Z.Warmed39 (s.setVm vmj117).vm ∧ (s.setVm vmj117).vm.findClass "com/example/permgrid/permgrid/PercentEncodingEncodePinLaw" = some m.cls ∧ CHr Z own_EL s.vm h0 vmj117 hj117 ∧ (h0.size ≤ al) ∧ Arv Z hj117 al kl .byte (3 : Int32) [(.int (nar .byte (p2.toInt8.toInt32))), (.int (nar .byte (p3.toInt8.toInt32))), (.int (nar .byte (p4.toInt8.toInt32)))] (.int 0) ∧ own_Go p e below S0 (Tj117.setTop (mkF m 46 #[vI p1, vI p2, vI p3, vI p4, vI 3, vR al, .unset, .unset] [])) := by
   have kjj117 : Keep h0 h0 [] := Keep.refl _ _
   have pre118 : own_Go p e below S0 (s₁.setTop (mkF m 7 #[vI p1, vI p2, vI p3, vI p4, vI 3, .unset, .unset, .unset] [(.int 3)])) := by
    intro t kt
    refine pre116 t ?_
    refine XS.iload X0.here hx rfl (hb hby at_5) rfl ?_
    exact kt
   obtain ⟨T119, h119, k119, X119, e119, E119, A119, Ax119, st119⟩ := newPE X0 hx hZ (H 0 rfl) e0 (g := (own_top pre118)) rfl (hb hby at_7) rfl (by decide) (cap := 3) (by decide) (by decide) (by decide) (by decide) (ad := "[B") (by decide)
   obtain ⟨b119, g119⟩ : ∃ z, z = h0.size := ⟨_, rfl⟩
   rw [← g119] at A119 Ax119 st119
   have ge120 : n0 ≤ b119 := Nat.le_trans Z0 (Nat.le_of_eq g119.symm)
   have sf121 : Safe Z own_EL s.vm h0 b119 := Safe.new (Nat.le_of_eq g119.symm)
   have sz122 : h0.size ≤ b119 := Nat.le_trans kjj117.1 (Nat.le_of_eq g119.symm)
   have zs123 : n0 ≤ h119.size := Nat.le_trans Z0 E119.1
   have kc124 : Keep h0 h119 [] := kjj117.ext E119
   have ch125 : CHr Z own_EL s.vm h0 s.vm h119 := ch0.trans (CHr.ext E119 ch0.1)
   have sf126 : Safe Z own_EL s.vm h119 b119 := Safe.ext E119 ch0.1 sf121
   have V119 : Arv Z h119 b119 k119 .byte (3 : Int32) [(.int 0), (.int 0), (.int 0)] (.int 0) := (Arv.new A119 (by decide)).pad (pad_rep [] (.int 0) 3)
   have pre127 : own_Go p e below S0 (T119.setTop (mkF m 21 #[vI p1, vI p2, vI p3, vI p4, vI 3, vR b119, .unset, .unset] [(.int (p2.toInt8.toInt32)), (.int 0), (.ref b119)])) := by
    intro t kt
    refine pre118 t ?_
    refine st119 _ ?_
    refine XS.astore X119.here hx rfl (hb hby at_9) rfl rfl (l' := #[vI p1, vI p2, vI p3, vI p4, vI 3, vR b119, .unset, .unset]) rfl ?_
    refine XS.iload X119.here hx rfl (hb hby at_11) rfl ?_
    refine XS.ifNo X119.here hx rfl (hb hby at_13) rfl ((if0 _ _).trans (tlt (by decide : (0 : Int32) < (3 : Int32))).2.2.2) ?_
    refine XS.aload X119.here hx rfl (hb hby at_16) rfl rfl ?_
    refine XS.iconst X119.here hx rfl (hb hby at_18) ?_
    refine XS.iloadN X119.here hx rfl (hb hby at_19) rfl ?_
    refine XS.i2b X119.here hx rfl (hb hby at_20) rfl ?_
    exact kt
   obtain ⟨cl128, Ar128, q128, Sz128, Ng128, Hs128, Gt128⟩ := id V119
   have hin128 : ¬ ((0 : Int32) < 0 ∨ cl128.slots.size ≤ ((0 : Int32)).toNatClampNeg) := inb_of Sz128 ⟨by decide, by decide⟩
   obtain ⟨T128, h128, X128, e128, W128, st128⟩ := stB X119 hx hZ e119 Ar128 (j := (0 : Int32)) hin128 (g := (own_top pre127)) rfl rfl (hb hby at_21)
   have N128 := Fr.snoc X128 N0 ge120
   have zs129 : n0 ≤ h128.size := Nat.le_trans zs123 (Keep.of_wr W128).1
   have kc130 : Keep h0 h128 [] := kc124.wr W128 (Or.inr sz122)
   have ch131 : CHr Z own_EL s.vm h0 s.vm h128 := ch125.trans (CHr.wr W128 sf126 ch125.1)
   have sf132 : Safe Z own_EL s.vm h128 b119 := Safe.wr W128 sf126 ch125.1 sf126
   have V128 : Arv Z h128 b119 k119 .byte (3 : Int32) [(.int (nar .byte (p2.toInt8.toInt32))), (.int 0), (.int 0)] (.int 0) := Arv.set Ar128 q128 Sz128 Ng128 Hs128 Gt128 (fits_nar_byte _) W128 0 rfl (Nat.le_of_ble_eq_true rfl)
   have pre133 : own_Go p e below S0 (T128.setTop (mkF m 33 #[vI p1, vI p2, vI p3, vI p4, vI 3, vR b119, .unset, .unset] [(.int (p3.toInt8.toInt32)), (.int 1), (.ref b119)])) := by
    intro t kt
    refine pre127 t ?_
    refine st128 _ ?_
    refine XS.iload X128.here hx rfl (hb hby at_22) rfl ?_
    refine XS.iconst X128.here hx rfl (hb hby at_24) ?_
    refine XS.icmpNo X128.here hx rfl (hb hby at_25) rfl (tlt (by decide : (1 : Int32) < (3 : Int32))).2.2.2 ?_
    refine XS.aload X128.here hx rfl (hb hby at_28) rfl rfl ?_
    refine XS.iconst X128.here hx rfl (hb hby at_30) ?_
    refine XS.iloadN X128.here hx rfl (hb hby at_31) rfl ?_
    refine XS.i2b X128.here hx rfl (hb hby at_32) rfl ?_
    exact kt
   obtain ⟨cl134, Ar134, q134, Sz134, Ng134, Hs134, Gt134⟩ := id V128
   have hin134 : ¬ ((1 : Int32) < 0 ∨ cl134.slots.size ≤ ((1 : Int32)).toNatClampNeg) := inb_of Sz134 ⟨by decide, by decide⟩
   obtain ⟨T134, h134, X134, e134, W134, st134⟩ := stB X128 hx hZ e128 Ar134 (j := (1 : Int32)) hin134 (g := (own_top pre133)) rfl rfl (hb hby at_33)
   have N134 := Fr.snoc X134 N128 ge120
   have zs135 : n0 ≤ h134.size := Nat.le_trans zs129 (Keep.of_wr W134).1
   have kc136 : Keep h0 h134 [] := kc130.wr W134 (Or.inr sz122)
   have ch137 : CHr Z own_EL s.vm h0 s.vm h134 := ch131.trans (CHr.wr W134 sf132 ch131.1)
   have sf138 : Safe Z own_EL s.vm h134 b119 := Safe.wr W134 sf132 ch131.1 sf132
   have V134 : Arv Z h134 b119 k119 .byte (3 : Int32) [(.int (nar .byte (p2.toInt8.toInt32))), (.int (nar .byte (p3.toInt8.toInt32))), (.int 0)] (.int 0) := Arv.set Ar134 q134 Sz134 Ng134 Hs134 Gt134 (fits_nar_byte _) W134 1 rfl (Nat.le_of_ble_eq_true rfl)
   have pre139 : own_Go p e below S0 (T134.setTop (mkF m 45 #[vI p1, vI p2, vI p3, vI p4, vI 3, vR b119, .unset, .unset] [(.int (p4.toInt8.toInt32)), (.int 2), (.ref b119)])) := by
    intro t kt
    refine pre133 t ?_
    refine st134 _ ?_
    refine XS.iload X134.here hx rfl (hb hby at_34) rfl ?_
    refine XS.iconst X134.here hx rfl (hb hby at_36) ?_
    refine XS.icmpNo X134.here hx rfl (hb hby at_37) rfl (tlt (by decide : (2 : Int32) < (3 : Int32))).2.2.2 ?_
    refine XS.aload X134.here hx rfl (hb hby at_40) rfl rfl ?_
    refine XS.iconst X134.here hx rfl (hb hby at_42) ?_
    refine XS.iloadN X134.here hx rfl (hb hby at_43) rfl ?_
    refine XS.i2b X134.here hx rfl (hb hby at_44) rfl ?_
    exact kt
   obtain ⟨cl140, Ar140, q140, Sz140, Ng140, Hs140, Gt140⟩ := id V134
   have hin140 : ¬ ((2 : Int32) < 0 ∨ cl140.slots.size ≤ ((2 : Int32)).toNatClampNeg) := inb_of Sz140 ⟨by decide, by decide⟩
   obtain ⟨T140, h140, X140, e140, W140, st140⟩ := stB X134 hx hZ e134 Ar140 (j := (2 : Int32)) hin140 (g := (own_top pre139)) rfl rfl (hb hby at_45)
   have N140 := Fr.snoc X140 N134 ge120
   have zs141 : n0 ≤ h140.size := Nat.le_trans zs135 (Keep.of_wr W140).1
   have kc142 : Keep h0 h140 [] := kc136.wr W140 (Or.inr sz122)
   have ch143 : CHr Z own_EL s.vm h0 s.vm h140 := ch137.trans (CHr.wr W140 sf138 ch137.1)
   have sf144 : Safe Z own_EL s.vm h140 b119 := Safe.wr W140 sf138 ch137.1 sf138
   have V140 : Arv Z h140 b119 k119 .byte (3 : Int32) [(.int (nar .byte (p2.toInt8.toInt32))), (.int (nar .byte (p3.toInt8.toInt32))), (.int (nar .byte (p4.toInt8.toInt32)))] (.int 0) := Arv.set Ar140 q140 Sz140 Ng140 Hs140 Gt140 (fits_nar_byte _) W140 2 rfl (Nat.le_of_ble_eq_true rfl)
   have pre145 : own_Go p e below S0 (T140.setTop (mkF m 46 #[vI p1, vI p2, vI p3, vI p4, vI 3, vR b119, .unset, .unset] [])) := by
    intro t kt
    refine pre139 t ?_
    refine st140 _ ?_
    exact kt
   exact ⟨b119, k119, T140, _, _, s.vm, _, (Stand.mono X140 (by decide) (by decide)), N140, e140, kc142, (own_since s 0), (Nat.zero_le _), hZ, hown, ch143, sz122, V140, pre145⟩
  have ge148 : n0 ≤ al := Nat.le_trans Z0 qj146
  have zs149 : n0 ≤ hj117.size := Nat.le_trans Z0 Kj117.1
  have pre150 : own_Go p e below S0 (Tj117.setTop (mkF m 48 #[vI p1, vI p2, vI p3, vI p4, vI 3, vR al, .unset, .unset] [(.ref al)])) := by
   intro t kt
   refine prej117 t ?_
   refine XS.aload Xj117.here hx rfl (hb hby at_46) rfl rfl ?_
   exact kt
  have f151 : Old Z n0 hj117 := (O0.keep Kj117 all0)
  obtain ⟨_, _, ⟨T152, L152, k152, n152⟩, -, X152, hSn152, hgn152, ⟨Lc152, hQ152, l152, y152, z152, cr152⟩, st152⟩ := callSS Xj117 hx (y := own_m0) hown (mvT hZ (H 1 rfl)) (mvT hZ (H 2 rfl)) (mvT hZ (H 3 rfl)) (mvT hZ (H 4 rfl)) (by decide) (own_backH (s := s) (vm0 := vmj117) (W := 0) (rmenc3 l Z a0 hw [] al wC wF kl (nar .byte (p2.toInt8.toInt32)) (nar .byte (p3.toInt8.toInt32)) (nar .byte (p4.toInt8.toInt32)) hj117 n0 zs149 f151 qC qF qj147) hZ (H 4 rfl) (H 3 rfl) (by decide) (by decide) (own_EW a0 Z hw) chj117.1 all0 all0) (g := (own_top pre150)) rfl (by rw [hml]; rfl) (argsL := [(.ref al)]) (rest := []) (lenOf pd_21 rfl) rfl (by show 2 * 0 + _ ≤ _; exact Nat.le_of_eq rfl) (hb hby at_48) (fun _ _ => ⟨rfl, ej117, (by decide : 1 + 19 ≤ _), (by decide : 3 + 386 ≤ _)⟩)
  dsimp only [Pt.U, Pt.locs, Pt.cells, Pt.slots] at X152 l152 y152 z152 st152 hQ152 hSn152 hgn152 cr152
  subst l152 y152 z152
  have hown := own_fc hown hSn152.1
  have hZ : Z.Warmed39 (s.setVm T152.vm).vm := State.Warmed39.trans (t := (s.setVm vmj117)) hZ hSn152.1
  have hSf152 := foldS (s := s) (vm0 := vmj117) hSj117 (by rw [ej117]; exact hkj117) hSn152 hgn152
  obtain ⟨b153, vb154, kb155, rfl, Nq152, K152, g156, g157⟩ := hQ152
  have N152 := Fr.app Nj117 Nq152
  have ne158 : al ≠ b153 := Nat.ne_of_lt (Nat.lt_of_lt_of_le qj147.lt g156)
  have ge159 : n0 ≤ b153 := Nat.le_trans zs149 g156
  have zs160 : n0 ≤ T152.heap.size := Nat.le_trans zs149 K152.1
  have ch161 : CHr Z own_EL s.vm h0 T152.vm T152.heap := chj117.trans (cr152)
  have pre162 : own_Go p e below S0 (T152.setTop (mkF m 70 #[vI p1, vI p2, vI p3, vI p4, vI 3, vR al, vR b153, vI 0] [(.int (p2 &&& (255 : Int32))), (.int 0), (.ref b153)])) := by
   intro t kt
   refine pre150 t ?_
   refine st152.trans ?_
   show Steps p.tables e below (T152.setTop (mkF m 51 #[vI p1, vI p2, vI p3, vI p4, vI 3, vR al, .unset, .unset] [(.ref b153)])) _
   refine XS.astore X152.here hx rfl (hb hby at_51) rfl rfl (l' := #[vI p1, vI p2, vI p3, vI p4, vI 3, vR al, vR b153, .unset]) rfl ?_
   refine XS.iconst X152.here hx rfl (hb hby at_53) ?_
   refine XS.istore X152.here hx rfl (hb hby at_54) rfl (l' := #[vI p1, vI p2, vI p3, vI p4, vI 3, vR al, vR b153, vI 0]) rfl ?_
   refine XS.iload X152.here hx rfl (hb hby at_56) rfl ?_
   refine XS.ifNo X152.here hx rfl (hb hby at_58) rfl ((if0 _ _).trans (tlt (by decide : (0 : Int32) < (3 : Int32))).2.2.2) ?_
   refine XS.aload X152.here hx rfl (hb hby at_61) rfl rfl ?_
   refine XS.iload X152.here hx rfl (hb hby at_63) rfl ?_
   refine XS.iloadN X152.here hx rfl (hb hby at_65) rfl ?_
   refine XS.sipush X152.here hx rfl (hb hby at_66) ?_
   refine XS.iand X152.here hx rfl (hb hby at_69) rfl ?_
   exact kt
  have f163 : Old Z n0 T152.heap := (f151.keep K152 all0)
  obtain ⟨_, _, ⟨T164, L164, k164, n164⟩, -, X164, ⟨Lc164, hQ164, l164, y164, z164⟩, st164⟩ := Jvm.LawKit.callS X152 hx (y := own_m2) hown (mvT hZ (H 164 rfl)) (mvT hZ (H 165 rfl)) (mvT hZ (H 166 rfl)) (mvT hZ (H 167 rfl)) (by decide) (backOf (W := 0) (rmseg l Z a0 hw [] b153 (0 : Int32) (p2 &&& (255 : Int32)) wC wF vb154 kb155 (own_enc3 (nar .byte (p2.toInt8.toInt32)) (nar .byte (p3.toInt8.toInt32)) (nar .byte (p4.toInt8.toInt32))) ([] : List Int32) ((own_e1 (nar .byte (p3.toInt8.toInt32))) ++ (own_e1 (nar .byte (p4.toInt8.toInt32)))) (nar .byte (p2.toInt8.toInt32)) T152.heap n0 zs160 f163 qC qF g157 (own_encL3 (nar .byte (p2.toInt8.toInt32)) (nar .byte (p3.toInt8.toInt32)) (nar .byte (p4.toInt8.toInt32))) (own_hcs30 (nar .byte (p2.toInt8.toInt32)) (nar .byte (p3.toInt8.toInt32)) (nar .byte (p4.toInt8.toInt32))) rfl (own_cbE _)) hZ (H 167 rfl) (H 166 rfl) (by decide) (by decide)) (g := (own_top pre162)) rfl (by rw [hml]; rfl) (argsL := [(.ref b153), (.int 0), (.int (p2 &&& (255 : Int32)))]) (rest := []) (lenOf pd_22 rfl) rfl (by show 2 * 0 + _ ≤ _; exact Nat.le_of_eq rfl) (hb hby at_70) (fun _ _ => ⟨rfl, rfl, (by decide : 20 + 0 ≤ _), (by decide : 389 + 0 ≤ _)⟩)
  dsimp only [Pt.U, Pt.locs, Pt.cells, Pt.slots] at X164 l164 y164 z164 st164 hQ164
  subst l164 y164 z164
  obtain ⟨rfl, Nq164, eq164⟩ := hQ164
  have N164 := Fr.app N152 Nq164
  have pre165 : own_Go p e below S0 (T164.setTop (mkF m 73 #[vI p1, vI p2, vI p3, vI p4, vI 3, vR al, vR b153, vI 0] [(.int ((0 : Int32) + (own_len (own_e1 (nar .byte (p2.toInt8.toInt32))))))])) := by
   intro t kt
   refine pre162 t ?_
   refine st164 _ ?_
   show Steps p.tables e below (T164.setTop (mkF m 73 #[vI p1, vI p2, vI p3, vI p4, vI 3, vR al, vR b153, vI 0] [(.int ((0 : Int32) + (own_len (own_e1 (nar .byte (p2.toInt8.toInt32))))))])) _
   exact kt
  obtain ⟨ps1, hps1⟩ : ∃ z, z = (own_len (own_e1 (nar .byte (p2.toInt8.toInt32)))) := ⟨_, rfl⟩
  have qps1 : ((0 : Int32) + (own_len (own_e1 (nar .byte (p2.toInt8.toInt32))))) = ps1 := by rw [hps1]; show (0 : Int32) + _ = _; exact Int32.zero_add _
  have pre166 : own_Go p e below S0 (T164.setTop (mkF m 73 #[vI p1, vI p2, vI p3, vI p4, vI 3, vR al, vR b153, vI 0] [(.int ps1)])) := by
   intro t kt
   refine pre165 t ?_
   rw [qps1]
   exact kt
  have pre167 : own_Go p e below S0 (T164.setTop (mkF m 90 #[vI p1, vI p2, vI p3, vI p4, vI 3, vR al, vR b153, vI ps1] [(.int (p3 &&& (255 : Int32))), (.int ps1), (.ref b153)])) := by
   intro t kt
   refine pre166 t ?_
   refine XS.istore X164.here hx rfl (hb hby at_73) rfl (l' := #[vI p1, vI p2, vI p3, vI p4, vI 3, vR al, vR b153, vI ps1]) rfl ?_
   refine XS.iload X164.here hx rfl (hb hby at_75) rfl ?_
   refine XS.iconst X164.here hx rfl (hb hby at_77) ?_
   refine XS.icmpNo X164.here hx rfl (hb hby at_78) rfl (tlt (by decide : (1 : Int32) < (3 : Int32))).2.2.2 ?_
   refine XS.aload X164.here hx rfl (hb hby at_81) rfl rfl ?_
   refine XS.iload X164.here hx rfl (hb hby at_83) rfl ?_
   refine XS.iloadN X164.here hx rfl (hb hby at_85) rfl ?_
   refine XS.sipush X164.here hx rfl (hb hby at_86) ?_
   refine XS.iand X164.here hx rfl (hb hby at_89) rfl ?_
   exact kt
  obtain ⟨_, _, ⟨T168, L168, k168, n168⟩, -, X168, ⟨Lc168, hQ168, l168, y168, z168⟩, st168⟩ := Jvm.LawKit.callS X164 hx (y := own_m2) hown (mvT hZ (H 164 rfl)) (mvT hZ (H 165 rfl)) (mvT hZ (H 166 rfl)) (mvT hZ (H 167 rfl)) (by decide) (backOf (W := 0) (rmseg l Z a0 hw [] b153 ps1 (p3 &&& (255 : Int32)) wC wF vb154 kb155 (own_enc3 (nar .byte (p2.toInt8.toInt32)) (nar .byte (p3.toInt8.toInt32)) (nar .byte (p4.toInt8.toInt32))) (own_e1 (nar .byte (p2.toInt8.toInt32))) (own_e1 (nar .byte (p4.toInt8.toInt32))) (nar .byte (p3.toInt8.toInt32)) T152.heap n0 zs160 f163 qC qF g157 (own_encL3 (nar .byte (p2.toInt8.toInt32)) (nar .byte (p3.toInt8.toInt32)) (nar .byte (p4.toInt8.toInt32))) (own_hcs31 (nar .byte (p2.toInt8.toInt32)) (nar .byte (p3.toInt8.toInt32)) (nar .byte (p4.toInt8.toInt32))) hps1 (own_cbE _)) hZ (H 167 rfl) (H 166 rfl) (by decide) (by decide)) (g := (own_top pre167)) rfl (by rw [hml]; rfl) (argsL := [(.ref b153), (.int ps1), (.int (p3 &&& (255 : Int32)))]) (rest := []) (lenOf pd_22 rfl) rfl (by show 2 * 0 + _ ≤ _; exact Nat.le_of_eq rfl) (hb hby at_90) (fun _ _ => ⟨rfl, eq164, (by decide : 20 + 0 ≤ _), (by decide : 389 + 0 ≤ _)⟩)
  dsimp only [Pt.U, Pt.locs, Pt.cells, Pt.slots] at X168 l168 y168 z168 st168 hQ168
  subst l168 y168 z168
  obtain ⟨rfl, Nq168, eq168⟩ := hQ168
  have N168 := Fr.app N164 Nq168
  have pre169 : own_Go p e below S0 (T168.setTop (mkF m 93 #[vI p1, vI p2, vI p3, vI p4, vI 3, vR al, vR b153, vI ps1] [(.int (ps1 + (own_len (own_e1 (nar .byte (p3.toInt8.toInt32))))))])) := by
   intro t kt
   refine pre167 t ?_
   refine st168 _ ?_
   show Steps p.tables e below (T168.setTop (mkF m 93 #[vI p1, vI p2, vI p3, vI p4, vI 3, vR al, vR b153, vI ps1] [(.int (ps1 + (own_len (own_e1 (nar .byte (p3.toInt8.toInt32))))))])) _
   exact kt
  obtain ⟨ps2, hps2⟩ : ∃ z, z = (own_len ((own_e1 (nar .byte (p2.toInt8.toInt32))) ++ (own_e1 (nar .byte (p3.toInt8.toInt32))))) := ⟨_, rfl⟩
  have qps2 : (ps1 + (own_len (own_e1 (nar .byte (p3.toInt8.toInt32))))) = ps2 := by rw [hps2, hps1]; exact own_lenA _ _ (by have q0 := own_e1L (nar .byte (p2.toInt8.toInt32)); have q1 := own_e1L (nar .byte (p3.toInt8.toInt32)); (try simp only [List.length_append]); omega)
  have pre170 : own_Go p e below S0 (T168.setTop (mkF m 93 #[vI p1, vI p2, vI p3, vI p4, vI 3, vR al, vR b153, vI ps1] [(.int ps2)])) := by
   intro t kt
   refine pre169 t ?_
   rw [qps2]
   exact kt
  have pre171 : own_Go p e below S0 (T168.setTop (mkF m 110 #[vI p1, vI p2, vI p3, vI p4, vI 3, vR al, vR b153, vI ps2] [(.int (p4 &&& (255 : Int32))), (.int ps2), (.ref b153)])) := by
   intro t kt
   refine pre170 t ?_
   refine XS.istore X168.here hx rfl (hb hby at_93) rfl (l' := #[vI p1, vI p2, vI p3, vI p4, vI 3, vR al, vR b153, vI ps2]) rfl ?_
   refine XS.iload X168.here hx rfl (hb hby at_95) rfl ?_
   refine XS.iconst X168.here hx rfl (hb hby at_97) ?_
   refine XS.icmpNo X168.here hx rfl (hb hby at_98) rfl (tlt (by decide : (2 : Int32) < (3 : Int32))).2.2.2 ?_
   refine XS.aload X168.here hx rfl (hb hby at_101) rfl rfl ?_
   refine XS.iload X168.here hx rfl (hb hby at_103) rfl ?_
   refine XS.iloadN X168.here hx rfl (hb hby at_105) rfl ?_
   refine XS.sipush X168.here hx rfl (hb hby at_106) ?_
   refine XS.iand X168.here hx rfl (hb hby at_109) rfl ?_
   exact kt
  obtain ⟨_, _, ⟨T172, L172, k172, n172⟩, -, X172, ⟨Lc172, hQ172, l172, y172, z172⟩, st172⟩ := Jvm.LawKit.callS X168 hx (y := own_m2) hown (mvT hZ (H 164 rfl)) (mvT hZ (H 165 rfl)) (mvT hZ (H 166 rfl)) (mvT hZ (H 167 rfl)) (by decide) (backOf (W := 0) (rmseg l Z a0 hw [] b153 ps2 (p4 &&& (255 : Int32)) wC wF vb154 kb155 (own_enc3 (nar .byte (p2.toInt8.toInt32)) (nar .byte (p3.toInt8.toInt32)) (nar .byte (p4.toInt8.toInt32))) ((own_e1 (nar .byte (p2.toInt8.toInt32))) ++ (own_e1 (nar .byte (p3.toInt8.toInt32)))) ([] : List Int32) (nar .byte (p4.toInt8.toInt32)) T152.heap n0 zs160 f163 qC qF g157 (own_encL3 (nar .byte (p2.toInt8.toInt32)) (nar .byte (p3.toInt8.toInt32)) (nar .byte (p4.toInt8.toInt32))) (own_hcs32 (nar .byte (p2.toInt8.toInt32)) (nar .byte (p3.toInt8.toInt32)) (nar .byte (p4.toInt8.toInt32))) hps2 (own_cbE _)) hZ (H 167 rfl) (H 166 rfl) (by decide) (by decide)) (g := (own_top pre171)) rfl (by rw [hml]; rfl) (argsL := [(.ref b153), (.int ps2), (.int (p4 &&& (255 : Int32)))]) (rest := []) (lenOf pd_22 rfl) rfl (by show 2 * 0 + _ ≤ _; exact Nat.le_of_eq rfl) (hb hby at_110) (fun _ _ => ⟨rfl, eq168, (by decide : 20 + 0 ≤ _), (by decide : 389 + 0 ≤ _)⟩)
  dsimp only [Pt.U, Pt.locs, Pt.cells, Pt.slots] at X172 l172 y172 z172 st172 hQ172
  subst l172 y172 z172
  obtain ⟨rfl, Nq172, eq172⟩ := hQ172
  have N172 := Fr.app N168 Nq172
  have pre173 : own_Go p e below S0 (T172.setTop (mkF m 113 #[vI p1, vI p2, vI p3, vI p4, vI 3, vR al, vR b153, vI ps2] [(.int (ps2 + (own_len (own_e1 (nar .byte (p4.toInt8.toInt32))))))])) := by
   intro t kt
   refine pre171 t ?_
   refine st172 _ ?_
   show Steps p.tables e below (T172.setTop (mkF m 113 #[vI p1, vI p2, vI p3, vI p4, vI 3, vR al, vR b153, vI ps2] [(.int (ps2 + (own_len (own_e1 (nar .byte (p4.toInt8.toInt32))))))])) _
   exact kt
  obtain ⟨ps3, hps3⟩ : ∃ z, z = (own_len (((own_e1 (nar .byte (p2.toInt8.toInt32))) ++ (own_e1 (nar .byte (p3.toInt8.toInt32)))) ++ (own_e1 (nar .byte (p4.toInt8.toInt32))))) := ⟨_, rfl⟩
  have qps3 : (ps2 + (own_len (own_e1 (nar .byte (p4.toInt8.toInt32))))) = ps3 := by rw [hps3, hps2]; exact own_lenA _ _ (by have q0 := own_e1L (nar .byte (p2.toInt8.toInt32)); have q1 := own_e1L (nar .byte (p3.toInt8.toInt32)); have q2 := own_e1L (nar .byte (p4.toInt8.toInt32)); (try simp only [List.length_append]); omega)
  have pre174 : own_Go p e below S0 (T172.setTop (mkF m 113 #[vI p1, vI p2, vI p3, vI p4, vI 3, vR al, vR b153, vI ps2] [(.int ps3)])) := by
   intro t kt
   refine pre173 t ?_
   rw [qps3]
   exact kt
  have pre175 : own_Go p e below S0 (T172.setTop (mkF m 124 #[vI p1, vI p2, vI p3, vI p4, vI 3, vR al, vR b153, vI ps3] [(.ref b153), (.int ps3)])) := by
   intro t kt
   refine pre174 t ?_
   refine XS.istore X172.here hx rfl (hb hby at_113) rfl (l' := #[vI p1, vI p2, vI p3, vI p4, vI 3, vR al, vR b153, vI ps3]) rfl ?_
   refine XS.iload X172.here hx rfl (hb hby at_115) rfl ?_
   refine XS.ifNo X172.here hx rfl (hb hby at_117) rfl ((if0 _ _).trans (flt (by rw [hps3]; exact own_lenNN _ (by have q0 := own_e1L (nar .byte (p2.toInt8.toInt32)); have q1 := own_e1L (nar .byte (p3.toInt8.toInt32)); have q2 := own_e1L (nar .byte (p4.toInt8.toInt32)); (try simp only [List.length_append]); omega))).1) ?_
   refine XS.iload X172.here hx rfl (hb hby at_120) rfl ?_
   refine XS.aload X172.here hx rfl (hb hby at_122) rfl rfl ?_
   exact kt
  obtain ⟨cq176, kq176, qa176, qb176, qc176⟩ := isOf hZ eq172 (g157).1
  obtain ⟨_, _, ⟨T176, L176, k176, n176⟩, -, X176, ⟨Lc176, hQ176, l176, y176, z176⟩, st176⟩ := X172.virtualBack hx (y := own_m19) (z := own_m19) hown (mvT hZ (H 79 rfl)) (mvT hZ (H 80 rfl)) (notFace_of_selects (args := #[]) (mvT hZ (H 82 rfl))) (mvT hZ (H 82 rfl)) (mvT hZ (H 81 rfl)) (by decide) (backOf (W := 1) (rmlenL l Z a0 hw [] b153 wC vb154 kb155 (own_enc3 (nar .byte (p2.toInt8.toInt32)) (nar .byte (p3.toInt8.toInt32)) (nar .byte (p4.toInt8.toInt32))) T152.heap n0 zs160 f163 qC g157) hZ (H 83 rfl) (H 21 rfl) (by decide) (by decide)) qa176 qc176 (g := (own_top pre175)) rfl (by rw [hml]; rfl) (Steps.refl _) (argsL := []) (rest := [(.int ps3)]) (lenOf pd_10 rfl) rfl (by show 2 * 0 + _ ≤ _; exact Nat.le_of_eq rfl) (hb hby at_124) (fun _ _ => ⟨rfl, eq172, (by decide : 20 + 0 ≤ _), (by decide : 389 + 0 ≤ _)⟩)
  dsimp only [Pt.U, Pt.locs, Pt.cells, Pt.slots] at X176 l176 y176 z176 st176 hQ176
  subst l176 y176 z176
  obtain ⟨rfl, Nq176, eq176⟩ := hQ176
  have N176 := Fr.app N172 Nq176
  have pre177 : own_Go p e below S0 (T176.setTop (mkF m 135 #[vI p1, vI p2, vI p3, vI p4, vI 3, vR al, vR b153, vI ps3] [(.int 1)])) := by
   intro t kt
   refine pre175 t ?_
   refine st176.trans ?_
   show Steps p.tables e below (T176.setTop (mkF m 127 #[vI p1, vI p2, vI p3, vI p4, vI 3, vR al, vR b153, vI ps3] [(.int (own_len (own_enc3 (nar .byte (p2.toInt8.toInt32)) (nar .byte (p3.toInt8.toInt32)) (nar .byte (p4.toInt8.toInt32))))), (.int ps3)])) _
   refine XS.icmpNo X176.here hx rfl (hb hby at_127) rfl (teq (hps3.trans (congrArg own_len (own_fin3 _ _ _)))).2 ?_
   refine XS.iconst X176.here hx rfl (hb hby at_130) ?_
   refine XS.goto X176.here hx rfl (pc0 := 131) (pc' := 135) rfl (hb hby at_131) (by decide) (by decide) ?_
   exact kt
  obtain ⟨fs, hr, hrun, hended, hRW⟩ := Stand.leaveW (s := s) (vm₁ := T152.vm) X176 hSf152 (by rw [eq176]; exact (Nat.le_refl _)) (v := some (.int 1)) (fun h => by rw [Bd.returns] at h; cases h)
  refine ⟨_, _, fin _ (pre177 _ ?_), hrun, hended, _, _, rfl, ?_, own_wideMono hRW (by decide) (by decide)⟩
  ·exact retN X176 hx (t := .boolean) Bd.returns (by simp) (hb hby at_135) hr
  ·show Q0 Z p1 p2 p3 p4 wC wF h0 n0 _ T176.heap _
   rw [eq176]
   exact ⟨rfl, N176⟩

set_option maxRecDepth 65536 in
set_option maxHeartbeats 40000000 in
theorem comes_1 {Post : Tables → Env → Array Value → State → Outcome → State → Prop} (hpost : ∀ tb e args s v u, (limb_1_1.after args s (.returned v) u = true ∧ limb_1_2.after args s (.returned v) u = true ∧ True) → ReturnedEndW s (.returned v) u (Jvm.fieldLocs frame_1_writes args s ++ Jvm.arrayLocs frame_1_arrays args s ++ Jvm.staticLocs frame_1_statics s) 24 1216 → Post tb e args s (.returned v) u) :
    ArmFor flags0 classFile x code maxLocals ret World_1 tables_1 room_1 Calls_1 rest_1 Pre_1 Post := by
  intro l hfl _ _ p e ha hc hk s m args below hf hA hF happ hP
  obtain ⟨hcalls, hrest, hpre⟩ := hP
  obtain ⟨-, -, -, hnamed, -, -, -, hat⟩ := (Spec.applies_iff hf).mp happ
  obtain ⟨hg, hn⟩ := and_e (Cond.before_iff.mp (show (Jvm.Cond.and given_1 narrow_1).before args s = true from hpre))
  obtain ⟨hcount, hg0⟩ := and_e hg
  obtain ⟨ga0, hg1⟩ := and_e hg0
  obtain ⟨ga1, hg2⟩ := and_e hg1
  obtain ⟨ga2, hg3⟩ := and_e hg2
  have ga3 := hg3
  obtain ⟨w0, w1, w2, w3, rfl⟩ : ∃ w0 w1 w2 w3 : Value, args = #[w0, w1, w2, w3] := by
    have hs : args.size = 4 := by simpa [Cond.value, given_1] using hcount
    obtain ⟨L⟩ := args
    match L, hs with
    | [w0, w1, w2, w3], _ => exact ⟨w0, w1, w2, w3, rfl⟩
  have hw := fun d (hd : d ∈ tables_1) => atoms_spec (ws := Jvm.Cond.code x code maxLocals ret :: tables_1) hat d (List.mem_cons_of_mem _ hd)
  have hfit : Fit s := fun {y c} hc i hi => by
    obtain ⟨ha, rfl⟩ := Array.getElem?_eq_some_iff.mp hc
    have q := List.all_eq_true.mp ((Array.all_eq_true_iff_forall_mem.mp hF) _ (Array.getElem_mem ha)) i (List.mem_range.mpr hi)
    simpa [Array.getElem?_eq_getElem hi] using q
  obtain ⟨hsets, hown0⟩ := atoms_of _ (rest_1_c_eq ▸ (show rest_1_c.before _ s = true from hrest))
  obtain ⟨i0, ei0⟩ := is_v ga0
  obtain rfl : w0 = (.int i0) := Option.some.inj ei0
  obtain ⟨i1, ei1⟩ := is_v ga1
  obtain rfl : w1 = (.int i1) := Option.some.inj ei1
  obtain ⟨i2, ei2⟩ := is_v ga2
  obtain rfl : w2 = (.int i2) := Option.some.inj ei2
  obtain ⟨i3, ei3⟩ := is_v ga3
  obtain rfl : w3 = (.int i3) := Option.some.inj ei3
  obtain ⟨wC, evC⟩ := is_v (Cond.before_iff.mp (hsets _ (List.mem_of_getElem? (i := 1) rfl)))
  have SC := Sta.start evC (Or.inl (hsets _ (List.mem_of_getElem? (i := 0) rfl)))
  have hC : ¬ wC = (0 : Int32) := fun q => by
    have z := not_v (Cond.before_iff.mp (hsets _ (List.mem_of_getElem? (i := 2) rfl)))
    exact absurd ((eq_i evC (Term.int_eval 0) (by rw [q])).symm.trans z) (by decide)
  obtain ⟨wF, evF, hF⟩ := isR_v (Cond.before_iff.mp (hsets _ (List.mem_of_getElem? (i := 8) rfl)))
  have SF := Sta.start evF (Or.inl (hsets _ (List.mem_of_getElem? (i := 7) rfl)))
  have hCH0 : CHv s own_EL s.vm s.heap := CHv.start (own_EW _ s hw) (fun q hq => hcalls.1 q (own_ELsub q hq)) (hsets _ (List.mem_of_getElem? (i := 2) rfl)) (hw _ (own_w 0 rfl)) (hw _ (own_w 32 rfl))
  obtain ⟨n, o, h1, h2, h3, _, L, rfl, ⟨rfl, N⟩, hq⟩ := rm0 l s _ hw tables_1 i0 i1 i2 i3 wC wF s.heap s.heap.size (Nat.le_refl _) (Old.start s) ⟨SC, hC⟩ ⟨SF, hF⟩ p e ha hc hk s m _ below hf ((Spec.applies_iff_loose hf).mp happ).1 ⟨rfl, State.Warmed39.refl s, rfl, hCH0, all0⟩ trivial
  refine ⟨n, _, h1, h2, h3, hpost _ _ _ _ _ _ ⟨Cond.after_iff.mpr rfl, Cond.after_iff.mpr (eq_i res_at (Term.int_eval (1)) rfl), trivial⟩ ⟨hq.1, hq.2.1, hq.2.2.1, (hq.2.2.2.sift fun y hy => Or.inr (N y hy)).mono (by decide) (by decide)⟩⟩
theorem main_1_1 : Claimed_1_1 := comes_1 fun _ _ _ _ _ _ h hF => ⟨h.1, hF⟩
theorem main_1_2 : Claimed_1_2 := comes_1 fun _ _ _ _ _ _ h hF => ⟨h.2.1, hF⟩

end Jvm.Pilot.@@N@@
namespace Jvm.Pilot.@@N@@
open Jvm Jvm.ClassFile Sem Op Lib Jvm.Free Jvm.Stand Jvm.Pilot.@@N@@.Jvm.D
/-! MADE BY PROGRAM (witnessworld.py) out of the Statement's table words and the real class files: 23 classes; the members and pool entries that the words name. The judged class is class 1, her method 1. -/
namespace start1
open Jvm.ClassFile
def u (s : String) : CpInfo := .utf8 (stringToUtf16 s)
/-- a pool by its gaps: so many unusable entries, then the entry; so many at the end -/
def gap : Nat → List CpInfo → List CpInfo
  | 0, r => r
  | n + 1, r => .unusable :: gap n r
def poolList (es : List (Nat × CpInfo)) (last : Nat) : List CpInfo := es.foldr (fun e r => gap e.1 (e.2 :: r)) (gap last [])
def pool (es : List (Nat × CpInfo)) (last : Nat) : Array CpInfo := ⟨poolList es last⟩
def fileOf (pool : Array CpInfo) (this : Nat) (attrs : Array Attribute := #[]) (ms : Array MethodInfo := #[]) (fl : Nat := 33) (sup : Nat := 0) (ifs : Array Nat := #[]) (fds : Array FieldInfo := #[]) : ClassFile where
  minorVersion := 0
  majorVersion := 65
  constantPool := pool
  accessFlags := fl
  thisClass := this
  superClass := sup
  interfaces := ifs
  fields := fds
  methods := ms
  attributes := attrs
def plain (name : String) (sup : Option ClassId) : Class where
  name := name
  kind := .ordinary
  loader := none
  accessFlags := 33
  super := sup
  interfaces := #[]
  cf := none
  fields := #[]
  methods := #[]
  instanceTypes := #[]
  staticTypes := #[]
  resolved := #[]
  callSites := []
  init := .initialized
  statics := none
  mirror := none

def pool0 : Array CpInfo := pool [(5, u "<init>"), (0, u "()V"), (1, .class_ 10), (1, u "java/lang/Object"), (85, u "clone"), (0, u "()Ljava/lang/Object;")] 26

def k0c0 : Code := { maxStack := 0, maxLocals := 1, code := object_method_1_code, exceptionTable := #[], attributes := #[] }
def k0m0 : Method := { name := "<init>", desc := "()V", sig := { parameters := [], returnType := none }, accessFlags := 1, code := some k0c0 }
def k0m1 : Method := { name := "clone", desc := "()Ljava/lang/Object;", sig := { parameters := [], returnType := some (.object "java/lang/Object") }, accessFlags := 260, code := none }
/-- java/lang/Object -/
def k0 : Class := { plain "java/lang/Object" none with
  accessFlags := 33
  interfaces := #[]
  cf := some (fileOf pool0 8 #[] #[{ accessFlags := 1, nameIndex := 5, descriptorIndex := 6, attributes := #[] }, { accessFlags := 260, nameIndex := 96, descriptorIndex := 97, attributes := #[] }] 33 0 #[] #[])
  fields := #[]
  methods := #[k0m0, k0m1]
  instanceTypes := #[]
  staticTypes := #[]
  resolved := Array.replicate 124 none
  statics := none }

def pool1 : Array CpInfo := pool [(2, .class_ 4), (1, u "java/lang/Object"), (0, u "<init>"), (0, u "()V"), (0, .methodref 8 9), (0, .class_ 10), (0, .nameAndType 11 12), (0, u "com/example/permgrid/permgrid/PercentEncoding"), (0, u "encode"), (0, u "([B)Ljava/lang/String;"), (0, .methodref 14 15), (0, .class_ 16), (0, .nameAndType 17 18), (0, u "com/example/permgrid/permgrid/PercentEncodingEncodePinLaw"), (0, u "seg"), (0, u "(Ljava/lang/String;II)I"), (0, .methodref 20 21), (0, .class_ 22), (0, .nameAndType 23 24), (0, u "java/lang/String"), (0, u "length"), (0, u "()I"), (0, .methodref 14 26), (0, .nameAndType 27 28), (0, u "unreserved"), (0, u "(I)Z"), (0, .methodref 20 30), (0, .nameAndType 31 32), (0, u "charAt"), (0, u "(I)C"), (0, .methodref 14 34), (0, .nameAndType 35 32), (0, u "hex"), (2, u "law"), (0, u "(IIII)Z")] 5

def k1m0 : Method := { name := "<init>", desc := "()V", sig := { parameters := [], returnType := none }, accessFlags := 2, code := none }
def k1c1 : Code := { maxStack := 4, maxLocals := 8, code := code, exceptionTable := #[], attributes := #[] }
def k1m1 : Method := { name := "law", desc := "(IIII)Z", sig := { parameters := [.int, .int, .int, .int], returnType := some .boolean }, accessFlags := 9, code := some k1c1 }
def k1c2 : Code := { maxStack := 2, maxLocals := 1, code := method_3_code, exceptionTable := #[], attributes := #[] }
def k1m2 : Method := { name := "unreserved", desc := "(I)Z", sig := { parameters := [.int], returnType := some .boolean }, accessFlags := 10, code := some k1c2 }
def k1c3 : Code := { maxStack := 2, maxLocals := 1, code := method_4_code, exceptionTable := #[], attributes := #[] }
def k1m3 : Method := { name := "hex", desc := "(I)C", sig := { parameters := [.int], returnType := some .char }, accessFlags := 10, code := some k1c3 }
def k1c4 : Code := { maxStack := 3, maxLocals := 3, code := method_5_code, exceptionTable := #[], attributes := #[] }
def k1m4 : Method := { name := "seg", desc := "(Ljava/lang/String;II)I", sig := { parameters := [(.object "java/lang/String"), .int, .int], returnType := some .int }, accessFlags := 10, code := some k1c4 }
/-- com/example/permgrid/permgrid/PercentEncodingEncodePinLaw -/
def k1 : Class := { plain "com/example/permgrid/permgrid/PercentEncodingEncodePinLaw" (some 0) with
  accessFlags := 49
  interfaces := #[]
  cf := some (fileOf pool1 14 #[] #[{ accessFlags := 2, nameIndex := 5, descriptorIndex := 6, attributes := #[] }, { accessFlags := 9, nameIndex := 38, descriptorIndex := 39, attributes := #[] }, { accessFlags := 10, nameIndex := 27, descriptorIndex := 28, attributes := #[] }, { accessFlags := 10, nameIndex := 35, descriptorIndex := 32, attributes := #[] }, { accessFlags := 10, nameIndex := 17, descriptorIndex := 18, attributes := #[] }] 49 2 #[] #[])
  fields := #[]
  methods := #[k1m0, k1m1, k1m2, k1m3, k1m4]
  instanceTypes := #[]
  staticTypes := #[]
  resolved := Array.replicate 45 none
  statics := none }

def pool2 : Array CpInfo := pool [(2, .class_ 4), (1, u "java/lang/Object"), (0, u "<init>"), (0, u "()V"), (1, .class_ 10), (1, u "java/lang/String"), (30, .class_ 43), (1, u "com/example/permgrid/permgrid/PercentEncoding"), (14, .nameAndType 60 61), (1, u "toString"), (0, u "()Ljava/lang/String;"), (20, .nameAndType 5 83), (0, u "(I)V"), (17, .class_ 102), (0, u "java/lang/StringBuilder"), (0, .methodref 101 82), (0, .methodref 101 105), (0, .nameAndType 106 107), (0, u "append"), (0, u "(C)Ljava/lang/StringBuilder;"), (0, .string 109), (0, u "0123456789ABCDEF"), (0, .methodref 8 111), (0, .nameAndType 112 113), (0, u "charAt"), (0, u "(I)C"), (0, .methodref 101 58), (0, u "HEX_DIGITS"), (0, u "Ljava/lang/String;"), (7, u "encode"), (0, u "([B)Ljava/lang/String;")] 19

def k2m0 : Method := { name := "<init>", desc := "()V", sig := { parameters := [], returnType := none }, accessFlags := 2, code := none }
def k2c1 : Code := { maxStack := 4, maxLocals := 7, code := prog_35_method_5_code, exceptionTable := #[], attributes := #[] }
def k2m1 : Method := { name := "encode", desc := "([B)Ljava/lang/String;", sig := { parameters := [(.array .byte)], returnType := some (.object "java/lang/String") }, accessFlags := 8, code := some k2c1 }
/-- com/example/permgrid/permgrid/PercentEncoding -/
def k2 : Class := { plain "com/example/permgrid/permgrid/PercentEncoding" (some 0) with
  accessFlags := 48
  interfaces := #[]
  cf := some (fileOf pool2 41 #[] #[{ accessFlags := 2, nameIndex := 5, descriptorIndex := 6, attributes := #[] }, { accessFlags := 8, nameIndex := 124, descriptorIndex := 125, attributes := #[] }] 48 2 #[] #[{ accessFlags := 26, nameIndex := 115, descriptorIndex := 116, attributes := #[] }])
  fields := #[{ name := "HEX_DIGITS", type := (.object "java/lang/String"), accessFlags := 26, slot := 0, constantValue := 0 }]
  methods := #[k2m0, k2m1]
  instanceTypes := #[]
  staticTypes := #[(.object "java/lang/String")]
  resolved := Array.replicate 145 none
  statics := none }

def pool3 : Array CpInfo := pool [(1, .class_ 2), (0, u "java/lang/Appendable"), (0, .class_ 4), (0, u "java/lang/Object")] 9

/-- java/lang/Appendable -/
def k3 : Class := { plain "java/lang/Appendable" (some 0) with
  accessFlags := 1537
  interfaces := #[]
  cf := some (fileOf pool3 1 #[] #[] 1537 3 #[] #[])
  fields := #[]
  methods := #[]
  instanceTypes := #[]
  staticTypes := #[]
  resolved := Array.replicate 14 none
  statics := none }

def pool4 : Array CpInfo := pool [(2, .class_ 4), (1, u "java/lang/CharSequence"), (42, .class_ 48), (0, u "java/lang/CharSequence$1CodePointIterator"), (10, .class_ 60), (0, u "java/lang/CharSequence$1CharIterator"), (5, .class_ 67), (0, u "java/lang/Object")] 63

/-- java/lang/CharSequence -/
def k4 : Class := { plain "java/lang/CharSequence" (some 0) with
  accessFlags := 1537
  interfaces := #[]
  cf := some (fileOf pool4 2 #[.nestMembers #[47, 59]] #[] 1537 66 #[] #[])
  fields := #[]
  methods := #[]
  instanceTypes := #[]
  staticTypes := #[]
  resolved := Array.replicate 131 none
  statics := none }

def pool5 : Array CpInfo := pool [(1, .class_ 2), (0, u "java/lang/String"), (0, .methodref 4 5), (0, .class_ 6), (0, .nameAndType 7 8), (0, u "java/lang/Object"), (0, u "<init>"), (0, u "()V"), (1, .class_ 12), (1, u "java/lang/AbstractStringBuilder"), (0, u "EMPTYVALUE"), (0, u "[B"), (0, .fieldref 10 16), (0, .nameAndType 17 14), (0, u "value"), (0, .fieldref 1 19), (0, .nameAndType 20 21), (0, u "COMPACT_STRINGS"), (0, u "Z"), (0, .fieldref 10 23), (0, .nameAndType 24 25), (0, u "coder"), (0, u "B"), (8, u "length"), (0, u "()I"), (3, .integer 2147483647), (5, u "append"), (2, .class_ 49), (0, u "java/lang/CharSequence"), (25, u "maybeLatin1"), (3, .fieldref 10 80), (0, .nameAndType 81 82), (0, u "count"), (0, u "I"), (0, .methodref 10 84), (0, .nameAndType 85 86), (0, u "isLatin1"), (0, u "()Z"), (1, .class_ 90), (1, u "java/lang/StringLatin1"), (9, .methodref 10 101), (0, .nameAndType 102 103), (0, u "ensureCapacityInternal"), (0, u "(I)V"), (0, .methodref 10 105), (0, .nameAndType 106 107), (0, u "newCapacity"), (0, u "(I)I"), (0, .methodref 109 110), (0, .class_ 111), (0, .nameAndType 112 113), (0, u "java/util/Arrays"), (0, u "copyOf"), (0, u "([BI)[B"), (0, .methodref 115 116), (0, .class_ 117), (0, .nameAndType 118 119), (0, u "jdk/internal/util/ArraysSupport"), (0, u "newLength"), (0, u "(III)I"), (71, .methodref 88 192), (0, .nameAndType 193 194), (0, u "canEncode"), (0, u "(C)Z"), (97, u "(C)Ljava/lang/AbstractStringBuilder;"), (110, u "()[B"), (40, .class_ 445), (0, u "java/lang/Appendable"), (106, u "getValue")] 56

def k5m0 : Method := { name := "<init>", desc := "()V", sig := { parameters := [], returnType := none }, accessFlags := 0, code := none }
def k5c1 : Code := { maxStack := 2, maxLocals := 2, code := jdk_68_method_2_code, exceptionTable := #[], attributes := #[] }
def k5m1 : Method := { name := "<init>", desc := "(I)V", sig := { parameters := [.int], returnType := none }, accessFlags := 0, code := some k5c1 }
def k5c2 : Code := { maxStack := 1, maxLocals := 1, code := jdk_68_method_6_code, exceptionTable := #[], attributes := #[] }
def k5m2 : Method := { name := "length", desc := "()I", sig := { parameters := [], returnType := some .int }, accessFlags := 1, code := some k5c2 }
def k5c3 : Code := { maxStack := 4, maxLocals := 3, code := jdk_68_method_9_code, exceptionTable := #[], attributes := #[] }
def k5m3 : Method := { name := "ensureCapacityInternal", desc := "(I)V", sig := { parameters := [.int], returnType := none }, accessFlags := 2, code := some k5c3 }
def k5c4 : Code := { maxStack := 5, maxLocals := 6, code := jdk_68_method_10_code, exceptionTable := #[], attributes := #[] }
def k5m4 : Method := { name := "newCapacity", desc := "(I)I", sig := { parameters := [.int], returnType := some .int }, accessFlags := 2, code := some k5c4 }
def k5c5 : Code := { maxStack := 5, maxLocals := 2, code := jdk_68_method_31_code, exceptionTable := #[], attributes := #[] }
def k5m5 : Method := { name := "append", desc := "(C)Ljava/lang/AbstractStringBuilder;", sig := { parameters := [.char], returnType := some (.object "java/lang/AbstractStringBuilder") }, accessFlags := 1, code := some k5c5 }
def k5c6 : Code := { maxStack := 1, maxLocals := 1, code := jdk_68_method_64_code, exceptionTable := #[], attributes := #[] }
def k5m6 : Method := { name := "getValue", desc := "()[B", sig := { parameters := [], returnType := some (.array .byte) }, accessFlags := 16, code := some k5c6 }
def k5c7 : Code := { maxStack := 1, maxLocals := 1, code := jdk_68_method_68_code, exceptionTable := #[], attributes := #[] }
def k5m7 : Method := { name := "isLatin1", desc := "()Z", sig := { parameters := [], returnType := some .boolean }, accessFlags := 16, code := some k5c7 }
/-- java/lang/AbstractStringBuilder -/
def k5 : Class := { plain "java/lang/AbstractStringBuilder" (some 0) with
  accessFlags := 1056
  interfaces := #[3, 4]
  cf := some (fileOf pool5 10 #[] #[{ accessFlags := 0, nameIndex := 7, descriptorIndex := 8, attributes := #[] }, { accessFlags := 0, nameIndex := 7, descriptorIndex := 103, attributes := #[] }, { accessFlags := 1, nameIndex := 34, descriptorIndex := 35, attributes := #[] }, { accessFlags := 2, nameIndex := 102, descriptorIndex := 103, attributes := #[] }, { accessFlags := 2, nameIndex := 106, descriptorIndex := 107, attributes := #[] }, { accessFlags := 1, nameIndex := 45, descriptorIndex := 292, attributes := #[] }, { accessFlags := 16, nameIndex := 552, descriptorIndex := 403, attributes := #[] }, { accessFlags := 16, nameIndex := 85, descriptorIndex := 86, attributes := #[] }] 1056 4 #[444, 48] #[{ accessFlags := 0, nameIndex := 17, descriptorIndex := 14, attributes := #[] }, { accessFlags := 0, nameIndex := 24, descriptorIndex := 25, attributes := #[] }, { accessFlags := 0, nameIndex := 75, descriptorIndex := 21, attributes := #[] }, { accessFlags := 0, nameIndex := 81, descriptorIndex := 82, attributes := #[] }, { accessFlags := 26, nameIndex := 13, descriptorIndex := 14, attributes := #[] }])
  fields := #[{ name := "value", type := (.array .byte), accessFlags := 0, slot := 0, constantValue := 0 }, { name := "coder", type := .byte, accessFlags := 0, slot := 1, constantValue := 0 }, { name := "maybeLatin1", type := .boolean, accessFlags := 0, slot := 2, constantValue := 0 }, { name := "count", type := .int, accessFlags := 0, slot := 3, constantValue := 0 }, { name := "EMPTYVALUE", type := (.array .byte), accessFlags := 26, slot := 0, constantValue := 0 }]
  methods := #[k5m0, k5m1, k5m2, k5m3, k5m4, k5m5, k5m6, k5m7]
  instanceTypes := #[(.array .byte), .byte, .boolean, .int]
  staticTypes := #[(.array .byte)]
  resolved := Array.replicate 609 none
  statics := none }

def pool6 : Array CpInfo := pool [(1, .class_ 2), (0, u "java/io/Serializable"), (0, .class_ 4), (0, u "java/lang/Object")] 2

/-- java/io/Serializable -/
def k6 : Class := { plain "java/io/Serializable" (some 0) with
  accessFlags := 1537
  interfaces := #[]
  cf := some (fileOf pool6 1 #[] #[] 1537 3 #[] #[])
  fields := #[]
  methods := #[]
  instanceTypes := #[]
  staticTypes := #[]
  resolved := Array.replicate 7 none
  statics := none }

def pool7 : Array CpInfo := pool [(1, .class_ 2), (0, u "java/lang/Comparable"), (0, .class_ 4), (0, u "java/lang/Object")] 7

/-- java/lang/Comparable -/
def k7 : Class := { plain "java/lang/Comparable" (some 0) with
  accessFlags := 1537
  interfaces := #[]
  cf := some (fileOf pool7 1 #[] #[] 1537 3 #[] #[])
  fields := #[]
  methods := #[]
  instanceTypes := #[]
  staticTypes := #[]
  resolved := Array.replicate 12 none
  statics := none }

def pool8 : Array CpInfo := pool [(1, .methodref 2 3), (0, .class_ 4), (0, .nameAndType 5 6), (0, u "java/lang/AbstractStringBuilder"), (0, u "<init>"), (0, u "(I)V"), (11, .class_ 20), (1, u "java/lang/String"), (3, .class_ 26), (1, u "java/lang/StringBuilder"), (0, u "append"), (22, .methodref 2 51), (0, .nameAndType 27 52), (0, u "(C)Ljava/lang/AbstractStringBuilder;"), (84, .methodref 18 138), (0, .nameAndType 5 139), (0, u "(Ljava/lang/StringBuilder;)V"), (5, u "()V"), (10, u "()I"), (129, u "(C)Ljava/lang/StringBuilder;"), (56, .methodref 2 344), (0, .nameAndType 345 156), (0, u "length"), (3, .class_ 350), (0, u "java/lang/Appendable"), (0, .class_ 352), (0, u "java/io/Serializable"), (0, .class_ 354), (0, u "java/lang/Comparable"), (0, .class_ 356), (0, u "java/lang/CharSequence"), (0, u "serialVersionUID"), (0, u "J"), (40, u "toString"), (0, u "()Ljava/lang/String;")] 21

def k8m0 : Method := { name := "<init>", desc := "()V", sig := { parameters := [], returnType := none }, accessFlags := 1, code := none }
def k8c1 : Code := { maxStack := 2, maxLocals := 2, code := jdk_67_method_2_code, exceptionTable := #[], attributes := #[] }
def k8m1 : Method := { name := "<init>", desc := "(I)V", sig := { parameters := [.int], returnType := none }, accessFlags := 1, code := some k8c1 }
def k8c2 : Code := { maxStack := 2, maxLocals := 2, code := jdk_67_method_14_code, exceptionTable := #[], attributes := #[] }
def k8m2 : Method := { name := "append", desc := "(C)Ljava/lang/StringBuilder;", sig := { parameters := [.char], returnType := some (.object "java/lang/StringBuilder") }, accessFlags := 1, code := some k8c2 }
def k8c3 : Code := { maxStack := 3, maxLocals := 1, code := jdk_67_method_42_code, exceptionTable := #[], attributes := #[] }
def k8m3 : Method := { name := "toString", desc := "()Ljava/lang/String;", sig := { parameters := [], returnType := some (.object "java/lang/String") }, accessFlags := 1, code := some k8c3 }
def k8c4 : Code := { maxStack := 1, maxLocals := 1, code := jdk_67_method_93_code, exceptionTable := #[], attributes := #[] }
def k8m4 : Method := { name := "length", desc := "()I", sig := { parameters := [], returnType := some .int }, accessFlags := 4161, code := some k8c4 }
/-- java/lang/StringBuilder -/
def k8 : Class := { plain "java/lang/StringBuilder" (some 5) with
  accessFlags := 49
  interfaces := #[3, 6, 7, 4]
  cf := some (fileOf pool8 24 #[] #[{ accessFlags := 1, nameIndex := 5, descriptorIndex := 145, attributes := #[] }, { accessFlags := 1, nameIndex := 5, descriptorIndex := 6, attributes := #[] }, { accessFlags := 1, nameIndex := 27, descriptorIndex := 286, attributes := #[] }, { accessFlags := 1, nameIndex := 399, descriptorIndex := 400, attributes := #[] }, { accessFlags := 4161, nameIndex := 345, descriptorIndex := 156, attributes := #[] }] 49 2 #[349, 351, 353, 355] #[{ accessFlags := 24, nameIndex := 357, descriptorIndex := 358, attributes := #[] }])
  fields := #[{ name := "serialVersionUID", type := .long, accessFlags := 24, slot := 0, constantValue := 0 }]
  methods := #[k8m0, k8m1, k8m2, k8m3, k8m4]
  instanceTypes := #[(.array .byte), .byte, .boolean, .int]
  staticTypes := #[.long]
  resolved := Array.replicate 422 none
  statics := none }

def pool9 : Array CpInfo := pool [(1, .class_ 2), (0, u "java/lang/constant/Constable"), (0, .class_ 4), (0, u "java/lang/Object")] 6

/-- java/lang/constant/Constable -/
def k9 : Class := { plain "java/lang/constant/Constable" (some 0) with
  accessFlags := 1537
  interfaces := #[]
  cf := some (fileOf pool9 1 #[] #[] 1537 3 #[] #[])
  fields := #[]
  methods := #[]
  instanceTypes := #[]
  staticTypes := #[]
  resolved := Array.replicate 11 none
  statics := none }

def pool10 : Array CpInfo := pool [(1, .class_ 2), (0, u "java/lang/constant/ConstantDesc"), (0, .class_ 4), (0, u "java/lang/Object")] 32

/-- java/lang/constant/ConstantDesc -/
def k10 : Class := { plain "java/lang/constant/ConstantDesc" (some 0) with
  accessFlags := 1537
  interfaces := #[]
  cf := some (fileOf pool10 1 #[] #[] 1537 3 #[] #[])
  fields := #[]
  methods := #[]
  instanceTypes := #[]
  staticTypes := #[]
  resolved := Array.replicate 37 none
  statics := none }

def pool11 : Array CpInfo := pool [(1, .methodref 2 3), (0, .class_ 4), (0, .nameAndType 5 6), (0, u "java/lang/Object"), (0, u "<init>"), (0, u "()V"), (2, .fieldref 10 11), (0, .class_ 12), (0, .nameAndType 13 14), (0, u "java/lang/String"), (0, u "value"), (0, u "[B"), (0, .fieldref 10 16), (0, .nameAndType 17 18), (0, u "coder"), (0, u "B"), (2, u "hash"), (0, u "I"), (2, u "hashIsZero"), (0, u "Z"), (11, .fieldref 10 39), (0, .nameAndType 40 26), (0, u "COMPACT_STRINGS"), (13, .methodref 55 56), (0, .class_ 57), (0, .nameAndType 58 59), (0, u "java/util/Arrays"), (0, u "copyOfRange"), (0, u "([BII)[B"), (47, .class_ 109), (1, u "java/lang/StringLatin1"), (32, u "()Z"), (191, u "()I"), (0, .methodref 10 336), (0, .nameAndType 17 337), (0, u "()B"), (2, u "()[B"), (22, u "([BI)C"), (27, u "(II)V"), (35, u "(I)C"), (61, .methodref 10 490), (0, .nameAndType 5 491), (0, u "(Ljava/lang/AbstractStringBuilder;Ljava/lang/Void;)V"), (0, .methodref 10 493), (0, .nameAndType 494 142), (0, u "isLatin1"), (0, .methodref 107 496), (0, .nameAndType 497 363), (0, u "charAt"), (3, u "checkIndex"), (4, .nameAndType 507 334), (0, u "length"), (41, .methodref 550 506), (0, .class_ 551), (0, u "java/lang/AbstractStringBuilder"), (0, .methodref 550 553), (0, .nameAndType 554 340), (0, u "getValue"), (20, .class_ 576), (0, u "java/lang/CharSequence"), (22, u "CASE_INSENSITIVE_ORDER"), (0, u "Ljava/util/Comparator;"), (446, .methodref 550 493), (5, .fieldref 1054 1055), (0, .class_ 1056), (0, .nameAndType 1057 1058), (0, u "jdk/internal/util/Preconditions"), (0, u "SIOOBE_FORMATTER"), (0, u "Ljava/util/function/BiFunction;"), (0, .methodref 1054 1060), (0, .nameAndType 501 1061), (0, u "(IILjava/util/function/BiFunction;)I"), (39, u "serialPersistentFields"), (0, u "[Ljava/io/ObjectStreamField;"), (0, .class_ 1104), (0, u "java/lang/String$CaseInsensitiveComparator"), (1, .class_ 1107), (0, u "java/io/Serializable"), (0, .class_ 1109), (0, u "java/lang/Comparable"), (0, .class_ 1111), (0, u "java/lang/constant/Constable"), (0, .class_ 1113), (0, u "java/lang/constant/ConstantDesc"), (2, u "serialVersionUID"), (0, u "J"), (3, u "REPL"), (0, u "C"), (2, u "LATIN1"), (1, u "UTF16"), (105, u "(Ljava/lang/StringBuilder;)V")] 217

def k11m0 : Method := { name := "<init>", desc := "()V", sig := { parameters := [], returnType := none }, accessFlags := 1, code := none }
def k11c1 : Code := { maxStack := 3, maxLocals := 2, code := jdk_42_method_53_code, exceptionTable := #[], attributes := #[] }
def k11m1 : Method := { name := "<init>", desc := "(Ljava/lang/StringBuilder;)V", sig := { parameters := [(.object "java/lang/StringBuilder")], returnType := none }, accessFlags := 1, code := some k11c1 }
def k11c2 : Code := { maxStack := 2, maxLocals := 1, code := jdk_42_method_54_code, exceptionTable := #[], attributes := #[] }
def k11m2 : Method := { name := "length", desc := "()I", sig := { parameters := [], returnType := some .int }, accessFlags := 1, code := some k11c2 }
def k11c3 : Code := { maxStack := 2, maxLocals := 2, code := jdk_42_method_56_code, exceptionTable := #[], attributes := #[] }
def k11m3 : Method := { name := "charAt", desc := "(I)C", sig := { parameters := [.int], returnType := some .char }, accessFlags := 1, code := some k11c3 }
def k11c4 : Code := { maxStack := 5, maxLocals := 5, code := jdk_42_method_150_code, exceptionTable := #[], attributes := #[] }
def k11m4 : Method := { name := "<init>", desc := "(Ljava/lang/AbstractStringBuilder;Ljava/lang/Void;)V", sig := { parameters := [(.object "java/lang/AbstractStringBuilder"), (.object "java/lang/Void")], returnType := none }, accessFlags := 0, code := some k11c4 }
def k11c5 : Code := { maxStack := 1, maxLocals := 1, code := jdk_42_method_152_code, exceptionTable := #[], attributes := #[] }
def k11m5 : Method := { name := "coder", desc := "()B", sig := { parameters := [], returnType := some .byte }, accessFlags := 0, code := some k11c5 }
def k11c6 : Code := { maxStack := 1, maxLocals := 1, code := jdk_42_method_154_code, exceptionTable := #[], attributes := #[] }
def k11m6 : Method := { name := "isLatin1", desc := "()Z", sig := { parameters := [], returnType := some .boolean }, accessFlags := 0, code := some k11c6 }
def k11c7 : Code := { maxStack := 3, maxLocals := 2, code := jdk_42_method_155_code, exceptionTable := #[], attributes := #[] }
def k11m7 : Method := { name := "checkIndex", desc := "(II)V", sig := { parameters := [.int, .int], returnType := none }, accessFlags := 8, code := some k11c7 }
/-- java/lang/String -/
def k11 : Class := { plain "java/lang/String" (some 0) with
  accessFlags := 49
  interfaces := #[6, 7, 4, 9, 10]
  cf := some (fileOf pool11 10 #[.nestMembers #[1103]] #[{ accessFlags := 1, nameIndex := 5, descriptorIndex := 6, attributes := #[] }, { accessFlags := 1, nameIndex := 5, descriptorIndex := 1233, attributes := #[] }, { accessFlags := 1, nameIndex := 507, descriptorIndex := 334, attributes := #[] }, { accessFlags := 1, nameIndex := 497, descriptorIndex := 427, attributes := #[] }, { accessFlags := 0, nameIndex := 5, descriptorIndex := 491, attributes := #[] }, { accessFlags := 0, nameIndex := 17, descriptorIndex := 337, attributes := #[] }, { accessFlags := 0, nameIndex := 494, descriptorIndex := 142, attributes := #[] }, { accessFlags := 8, nameIndex := 501, descriptorIndex := 391, attributes := #[] }] 49 2 #[1106, 1108, 575, 1110, 1112] #[{ accessFlags := 18, nameIndex := 13, descriptorIndex := 14, attributes := #[] }, { accessFlags := 18, nameIndex := 17, descriptorIndex := 18, attributes := #[] }, { accessFlags := 2, nameIndex := 21, descriptorIndex := 22, attributes := #[] }, { accessFlags := 2, nameIndex := 25, descriptorIndex := 26, attributes := #[] }, { accessFlags := 26, nameIndex := 1116, descriptorIndex := 1117, attributes := #[] }, { accessFlags := 24, nameIndex := 40, descriptorIndex := 26, attributes := #[] }, { accessFlags := 26, nameIndex := 1101, descriptorIndex := 1102, attributes := #[] }, { accessFlags := 26, nameIndex := 1121, descriptorIndex := 1122, attributes := #[] }, { accessFlags := 25, nameIndex := 599, descriptorIndex := 600, attributes := #[] }, { accessFlags := 24, nameIndex := 1125, descriptorIndex := 18, attributes := #[] }, { accessFlags := 24, nameIndex := 1127, descriptorIndex := 18, attributes := #[] }])
  fields := #[{ name := "value", type := (.array .byte), accessFlags := 18, slot := 0, constantValue := 0 }, { name := "coder", type := .byte, accessFlags := 18, slot := 1, constantValue := 0 }, { name := "hash", type := .int, accessFlags := 2, slot := 2, constantValue := 0 }, { name := "hashIsZero", type := .boolean, accessFlags := 2, slot := 3, constantValue := 0 }, { name := "serialVersionUID", type := .long, accessFlags := 26, slot := 0, constantValue := 0 }, { name := "COMPACT_STRINGS", type := .boolean, accessFlags := 24, slot := 1, constantValue := 0 }, { name := "serialPersistentFields", type := (.array (.object "java/io/ObjectStreamField")), accessFlags := 26, slot := 2, constantValue := 0 }, { name := "REPL", type := .char, accessFlags := 26, slot := 3, constantValue := 0 }, { name := "CASE_INSENSITIVE_ORDER", type := (.object "java/util/Comparator"), accessFlags := 25, slot := 4, constantValue := 0 }, { name := "LATIN1", type := .byte, accessFlags := 24, slot := 5, constantValue := 0 }, { name := "UTF16", type := .byte, accessFlags := 24, slot := 6, constantValue := 0 }]
  methods := #[k11m0, k11m1, k11m2, k11m3, k11m4, k11m5, k11m6, k11m7]
  instanceTypes := #[(.array .byte), .byte, .int, .boolean]
  staticTypes := #[.long, .boolean, (.array (.object "java/io/ObjectStreamField")), .char, (.object "java/util/Comparator"), .byte, .byte]
  resolved := Array.replicate 1451 none
  statics := some 0 }

def pool12 : Array CpInfo := pool [(2, .class_ 4), (1, u "java/lang/Object"), (0, u "<init>"), (0, u "()V"), (7, .class_ 16), (1, u "java/util/Arrays"), (57, .class_ 76), (1, u "java/util/Arrays$NaturalOrder"), (32, u "()Ljava/lang/Object;"), (3, .class_ 115), (1, u "java/util/Arrays$LegacyMergeSort"), (1, u "Z"), (10, .nameAndType 129 109), (0, u "clone"), (9, u "copyOfRange"), (10, .methodref 151 152), (0, .class_ 153), (0, .nameAndType 154 155), (0, u "java/lang/System"), (0, u "arraycopy"), (0, u "(Ljava/lang/Object;ILjava/lang/Object;II)V"), (146, u "copyOf"), (1, .methodref 305 306), (0, .class_ 307), (0, .nameAndType 308 309), (0, u "java/lang/Math"), (0, u "min"), (0, u "(II)I"), (0, .methodref 311 128), (0, .class_ 312), (0, u "[B"), (26, .methodref 14 340), (0, .nameAndType 341 342), (0, u "copyOfRangeByte"), (0, u "([BII)[B"), (0, .methodref 14 344), (0, .nameAndType 345 346), (0, u "checkLength"), (0, u "(II)V"), (28, .class_ 376), (0, u "java/util/Arrays$ArrayList"), (68, u "$assertionsDisabled"), (269, u "MIN_ARRAY_SORT_GRAN"), (0, u "I"), (2, u "INSERTIONSORT_THRESHOLD"), (149, u "([BI)[B"), (105, .class_ 976), (0, u "java/util/Arrays$ArrayItr")] 52

def k12m0 : Method := { name := "<init>", desc := "()V", sig := { parameters := [], returnType := none }, accessFlags := 2, code := none }
def k12c1 : Code := { maxStack := 6, maxLocals := 3, code := jdk_65_method_121_code, exceptionTable := #[], attributes := #[] }
def k12m1 : Method := { name := "copyOf", desc := "([BI)[B", sig := { parameters := [(.array .byte), .int], returnType := some (.array .byte) }, accessFlags := 9, code := some k12c1 }
def k12c2 : Code := { maxStack := 4, maxLocals := 2, code := jdk_65_method_131_code, exceptionTable := #[], attributes := #[] }
def k12m2 : Method := { name := "checkLength", desc := "(II)V", sig := { parameters := [.int, .int], returnType := none }, accessFlags := 10, code := some k12c2 }
def k12c3 : Code := { maxStack := 3, maxLocals := 3, code := jdk_65_method_132_code, exceptionTable := #[], attributes := #[] }
def k12m3 : Method := { name := "copyOfRange", desc := "([BII)[B", sig := { parameters := [(.array .byte), .int, .int], returnType := some (.array .byte) }, accessFlags := 9, code := some k12c3 }
def k12c4 : Code := { maxStack := 6, maxLocals := 5, code := jdk_65_method_133_code, exceptionTable := #[], attributes := #[] }
def k12m4 : Method := { name := "copyOfRangeByte", desc := "([BII)[B", sig := { parameters := [(.array .byte), .int, .int], returnType := some (.array .byte) }, accessFlags := 10, code := some k12c4 }
/-- java/util/Arrays -/
def k12 : Class := { plain "java/util/Arrays" (some 0) with
  accessFlags := 49
  interfaces := #[]
  cf := some (fileOf pool12 14 #[.nestMembers #[975, 375, 113, 74]] #[{ accessFlags := 2, nameIndex := 5, descriptorIndex := 6, attributes := #[] }, { accessFlags := 9, nameIndex := 302, descriptorIndex := 869, attributes := #[] }, { accessFlags := 10, nameIndex := 345, descriptorIndex := 346, attributes := #[] }, { accessFlags := 9, nameIndex := 139, descriptorIndex := 342, attributes := #[] }, { accessFlags := 10, nameIndex := 341, descriptorIndex := 342, attributes := #[] }] 49 2 #[] #[{ accessFlags := 26, nameIndex := 715, descriptorIndex := 716, attributes := #[] }, { accessFlags := 26, nameIndex := 719, descriptorIndex := 716, attributes := #[] }, { accessFlags := 4120, nameIndex := 445, descriptorIndex := 117, attributes := #[] }])
  fields := #[{ name := "MIN_ARRAY_SORT_GRAN", type := .int, accessFlags := 26, slot := 0, constantValue := 0 }, { name := "INSERTIONSORT_THRESHOLD", type := .int, accessFlags := 26, slot := 1, constantValue := 0 }, { name := "$assertionsDisabled", type := .boolean, accessFlags := 4120, slot := 2, constantValue := 0 }]
  methods := #[k12m0, k12m1, k12m2, k12m3, k12m4]
  instanceTypes := #[]
  staticTypes := #[.int, .int, .boolean]
  resolved := Array.replicate 1029 none
  statics := none }

def pool13 : Array CpInfo := pool [(1, .class_ 2), (0, u "java/lang/Cloneable"), (0, .class_ 4), (0, u "java/lang/Object")] 2

/-- java/lang/Cloneable -/
def k13 : Class := { plain "java/lang/Cloneable" (some 0) with
  accessFlags := 1537
  interfaces := #[]
  cf := some (fileOf pool13 1 #[] #[] 1537 3 #[] #[])
  fields := #[]
  methods := #[]
  instanceTypes := #[]
  staticTypes := #[]
  resolved := Array.replicate 7 none
  statics := none }

def pool14 : Array CpInfo := pool [(1, .class_ 2), (0, u "java/lang/String"), (1, .class_ 6), (1, u "java/lang/Object"), (0, u "<init>"), (0, u "()V"), (0, .methodref 1 10), (0, .nameAndType 11 12), (0, u "checkIndex"), (0, u "(II)V"), (1, .class_ 16), (1, u "java/lang/StringLatin1"), (36, u "([BI)C"), (36, u "canEncode"), (14, u "(C)Z"), (15, u "$assertionsDisabled"), (0, u "Z"), (98, .class_ 223), (1, u "java/lang/StringLatin1$LinesSpliterator"), (28, u "charAt"), (137, .class_ 391), (0, u "java/lang/StringLatin1$CharsSpliterator")] 3

def k14m0 : Method := { name := "<init>", desc := "()V", sig := { parameters := [], returnType := none }, accessFlags := 0, code := none }
def k14c1 : Code := { maxStack := 2, maxLocals := 2, code := jdk_43_method_2_code, exceptionTable := #[], attributes := #[] }
def k14m1 : Method := { name := "charAt", desc := "([BI)C", sig := { parameters := [(.array .byte), .int], returnType := some .char }, accessFlags := 9, code := some k14c1 }
def k14c2 : Code := { maxStack := 2, maxLocals := 1, code := jdk_43_method_3_code, exceptionTable := #[], attributes := #[] }
def k14m2 : Method := { name := "canEncode", desc := "(C)Z", sig := { parameters := [.char], returnType := some .boolean }, accessFlags := 9, code := some k14c2 }
/-- java/lang/StringLatin1 -/
def k14 : Class := { plain "java/lang/StringLatin1" (some 0) with
  accessFlags := 48
  interfaces := #[]
  cf := some (fileOf pool14 14 #[.nestMembers #[390, 221]] #[{ accessFlags := 0, nameIndex := 7, descriptorIndex := 8, attributes := #[] }, { accessFlags := 9, nameIndex := 252, descriptorIndex := 53, attributes := #[] }, { accessFlags := 9, nameIndex := 90, descriptorIndex := 105, attributes := #[] }] 48 4 #[] #[{ accessFlags := 4120, nameIndex := 121, descriptorIndex := 122, attributes := #[] }])
  fields := #[{ name := "$assertionsDisabled", type := .boolean, accessFlags := 4120, slot := 0, constantValue := 0 }]
  methods := #[k14m0, k14m1, k14m2]
  instanceTypes := #[]
  staticTypes := #[.boolean]
  resolved := Array.replicate 395 none
  statics := none }

def pool15 : Array CpInfo := pool [(2, .class_ 4), (1, u "java/lang/Object"), (0, u "<init>"), (0, u "()V"), (17, .class_ 26), (1, u "jdk/internal/util/Preconditions"), (6, u "checkIndex"), (21, .class_ 56), (0, u "jdk/internal/util/Preconditions$4"), (57, .class_ 115), (0, u "jdk/internal/util/Preconditions$1"), (7, u "SIOOBE_FORMATTER"), (0, u "Ljava/util/function/BiFunction;"), (0, .class_ 126), (0, u "jdk/internal/util/Preconditions$2"), (3, u "AIOOBE_FORMATTER"), (0, .class_ 132), (0, u "jdk/internal/util/Preconditions$3"), (3, u "IOOBE_FORMATTER"), (41, u "(IILjava/util/function/BiFunction;)I")] 15

def k15m0 : Method := { name := "<init>", desc := "()V", sig := { parameters := [], returnType := none }, accessFlags := 1, code := none }
def k15c1 : Code := { maxStack := 3, maxLocals := 3, code := jdk_41_method_11_code, exceptionTable := #[], attributes := #[] }
def k15m1 : Method := { name := "checkIndex", desc := "(IILjava/util/function/BiFunction;)I", sig := { parameters := [.int, .int, (.object "java/util/function/BiFunction")], returnType := some .int }, accessFlags := 9, code := some k15c1 }
/-- jdk/internal/util/Preconditions -/
def k15 : Class := { plain "jdk/internal/util/Preconditions" (some 0) with
  accessFlags := 33
  interfaces := #[]
  cf := some (fileOf pool15 24 #[.nestMembers #[55, 131, 125, 114]] #[{ accessFlags := 1, nameIndex := 5, descriptorIndex := 6, attributes := #[] }, { accessFlags := 9, nameIndex := 33, descriptorIndex := 178, attributes := #[] }] 33 2 #[] #[{ accessFlags := 25, nameIndex := 123, descriptorIndex := 124, attributes := #[] }, { accessFlags := 25, nameIndex := 130, descriptorIndex := 124, attributes := #[] }, { accessFlags := 25, nameIndex := 136, descriptorIndex := 124, attributes := #[] }])
  fields := #[{ name := "SIOOBE_FORMATTER", type := (.object "java/util/function/BiFunction"), accessFlags := 25, slot := 0, constantValue := 0 }, { name := "AIOOBE_FORMATTER", type := (.object "java/util/function/BiFunction"), accessFlags := 25, slot := 1, constantValue := 0 }, { name := "IOOBE_FORMATTER", type := (.object "java/util/function/BiFunction"), accessFlags := 25, slot := 2, constantValue := 0 }]
  methods := #[k15m0, k15m1]
  instanceTypes := #[]
  staticTypes := #[(.object "java/util/function/BiFunction"), (.object "java/util/function/BiFunction"), (.object "java/util/function/BiFunction")]
  resolved := Array.replicate 194 none
  statics := some 1 }

def pool16 : Array CpInfo := pool [(9, u "<init>"), (6, .class_ 18), (1, u "java/lang/Object"), (0, u "()V"), (1, .class_ 23), (1, u "jdk/internal/util/ArraysSupport"), (0, u "LOG2_ARRAY_LONG_INDEX_SCALE"), (0, u "I"), (2, u "U"), (0, u "Ljdk/internal/misc/Unsafe;"), (8, u "BIG_ENDIAN"), (0, u "Z"), (8, u "LOG2_BYTE_BIT_SIZE"), (4, u "LOG2_ARRAY_INT_INDEX_SCALE"), (54, u "JLA"), (0, u "Ljdk/internal/access/JavaLangAccess;"), (11, u "LOG2_ARRAY_BOOLEAN_INDEX_SCALE"), (9, u "LOG2_ARRAY_BYTE_INDEX_SCALE"), (5, u "LOG2_ARRAY_CHAR_INDEX_SCALE"), (5, u "LOG2_ARRAY_SHORT_INDEX_SCALE"), (18, u "LOG2_ARRAY_FLOAT_INDEX_SCALE"), (24, u "LOG2_ARRAY_DOUBLE_INDEX_SCALE"), (6, .methodref 195 196), (0, .class_ 197), (0, .nameAndType 198 199), (0, u "java/lang/Math"), (0, u "max"), (0, u "(II)I"), (0, .integer 2147483639), (76, u "T_BOOLEAN"), (2, u "T_CHAR"), (1, u "T_FLOAT"), (1, u "T_DOUBLE"), (1, u "T_BYTE"), (1, u "T_SHORT"), (1, u "T_INT"), (1, u "T_LONG"), (1, u "SOFT_MAX_ARRAY_LENGTH"), (56, u "newLength"), (0, u "(III)I")] 25

def k16m0 : Method := { name := "<init>", desc := "()V", sig := { parameters := [], returnType := none }, accessFlags := 2, code := none }
def k16c1 : Code := { maxStack := 3, maxLocals := 4, code := jdk_48_method_27_code, exceptionTable := #[], attributes := #[] }
def k16m1 : Method := { name := "newLength", desc := "(III)I", sig := { parameters := [.int, .int, .int], returnType := some .int }, accessFlags := 9, code := some k16c1 }
/-- jdk/internal/util/ArraysSupport -/
def k16 : Class := { plain "jdk/internal/util/ArraysSupport" (some 0) with
  accessFlags := 33
  interfaces := #[]
  cf := some (fileOf pool16 21 #[] #[{ accessFlags := 2, nameIndex := 9, descriptorIndex := 19, attributes := #[] }, { accessFlags := 9, nameIndex := 351, descriptorIndex := 352, attributes := #[] }] 33 16 #[] #[{ accessFlags := 24, nameIndex := 28, descriptorIndex := 29, attributes := #[] }, { accessFlags := 26, nameIndex := 38, descriptorIndex := 39, attributes := #[] }, { accessFlags := 25, nameIndex := 121, descriptorIndex := 25, attributes := #[] }, { accessFlags := 25, nameIndex := 131, descriptorIndex := 25, attributes := #[] }, { accessFlags := 25, nameIndex := 137, descriptorIndex := 25, attributes := #[] }, { accessFlags := 25, nameIndex := 143, descriptorIndex := 25, attributes := #[] }, { accessFlags := 25, nameIndex := 53, descriptorIndex := 25, attributes := #[] }, { accessFlags := 25, nameIndex := 24, descriptorIndex := 25, attributes := #[] }, { accessFlags := 25, nameIndex := 162, descriptorIndex := 25, attributes := #[] }, { accessFlags := 25, nameIndex := 187, descriptorIndex := 25, attributes := #[] }, { accessFlags := 26, nameIndex := 48, descriptorIndex := 25, attributes := #[] }, { accessFlags := 25, nameIndex := 277, descriptorIndex := 25, attributes := #[] }, { accessFlags := 25, nameIndex := 280, descriptorIndex := 25, attributes := #[] }, { accessFlags := 25, nameIndex := 282, descriptorIndex := 25, attributes := #[] }, { accessFlags := 25, nameIndex := 284, descriptorIndex := 25, attributes := #[] }, { accessFlags := 25, nameIndex := 286, descriptorIndex := 25, attributes := #[] }, { accessFlags := 25, nameIndex := 288, descriptorIndex := 25, attributes := #[] }, { accessFlags := 25, nameIndex := 290, descriptorIndex := 25, attributes := #[] }, { accessFlags := 25, nameIndex := 292, descriptorIndex := 25, attributes := #[] }, { accessFlags := 26, nameIndex := 108, descriptorIndex := 109, attributes := #[] }, { accessFlags := 25, nameIndex := 294, descriptorIndex := 25, attributes := #[] }])
  fields := #[{ name := "U", type := (.object "jdk/internal/misc/Unsafe"), accessFlags := 24, slot := 0, constantValue := 0 }, { name := "BIG_ENDIAN", type := .boolean, accessFlags := 26, slot := 1, constantValue := 0 }, { name := "LOG2_ARRAY_BOOLEAN_INDEX_SCALE", type := .int, accessFlags := 25, slot := 2, constantValue := 0 }, { name := "LOG2_ARRAY_BYTE_INDEX_SCALE", type := .int, accessFlags := 25, slot := 3, constantValue := 0 }, { name := "LOG2_ARRAY_CHAR_INDEX_SCALE", type := .int, accessFlags := 25, slot := 4, constantValue := 0 }, { name := "LOG2_ARRAY_SHORT_INDEX_SCALE", type := .int, accessFlags := 25, slot := 5, constantValue := 0 }, { name := "LOG2_ARRAY_INT_INDEX_SCALE", type := .int, accessFlags := 25, slot := 6, constantValue := 0 }, { name := "LOG2_ARRAY_LONG_INDEX_SCALE", type := .int, accessFlags := 25, slot := 7, constantValue := 0 }, { name := "LOG2_ARRAY_FLOAT_INDEX_SCALE", type := .int, accessFlags := 25, slot := 8, constantValue := 0 }, { name := "LOG2_ARRAY_DOUBLE_INDEX_SCALE", type := .int, accessFlags := 25, slot := 9, constantValue := 0 }, { name := "LOG2_BYTE_BIT_SIZE", type := .int, accessFlags := 26, slot := 10, constantValue := 0 }, { name := "T_BOOLEAN", type := .int, accessFlags := 25, slot := 11, constantValue := 0 }, { name := "T_CHAR", type := .int, accessFlags := 25, slot := 12, constantValue := 0 }, { name := "T_FLOAT", type := .int, accessFlags := 25, slot := 13, constantValue := 0 }, { name := "T_DOUBLE", type := .int, accessFlags := 25, slot := 14, constantValue := 0 }, { name := "T_BYTE", type := .int, accessFlags := 25, slot := 15, constantValue := 0 }, { name := "T_SHORT", type := .int, accessFlags := 25, slot := 16, constantValue := 0 }, { name := "T_INT", type := .int, accessFlags := 25, slot := 17, constantValue := 0 }, { name := "T_LONG", type := .int, accessFlags := 25, slot := 18, constantValue := 0 }, { name := "JLA", type := (.object "jdk/internal/access/JavaLangAccess"), accessFlags := 26, slot := 19, constantValue := 0 }, { name := "SOFT_MAX_ARRAY_LENGTH", type := .int, accessFlags := 25, slot := 20, constantValue := 0 }]
  methods := #[k16m0, k16m1]
  instanceTypes := #[]
  staticTypes := #[(.object "jdk/internal/misc/Unsafe"), .boolean, .int, .int, .int, .int, .int, .int, .int, .int, .int, .int, .int, .int, .int, .int, .int, .int, .int, (.object "jdk/internal/access/JavaLangAccess"), .int]
  resolved := Array.replicate 378 none
  statics := none }

def pool17 : Array CpInfo := pool [(1, .class_ 2), (0, u "java/lang/Math"), (1, .class_ 6), (1, u "java/lang/Object"), (0, u "<init>"), (0, u "()V"), (89, .class_ 100), (1, u "java/lang/Math$RandomNumberGeneratorHolder"), (71, u "negativeZeroFloatBits"), (0, u "J"), (2, u "negativeZeroDoubleBits"), (21, u "max"), (2, u "min"), (43, u "$assertionsDisabled"), (0, u "Z"), (88, u "(II)I"), (2, u "twoToTheDoubleScaleDown"), (0, u "D"), (4, u "twoToTheDoubleScaleUp"), (9, u "E"), (3, u "PI"), (2, u "TAU"), (2, u "DEGREES_TO_RADIANS"), (0, u "RADIANS_TO_DEGREES")] 94

def k17m0 : Method := { name := "<init>", desc := "()V", sig := { parameters := [], returnType := none }, accessFlags := 2, code := none }
def k17c1 : Code := { maxStack := 2, maxLocals := 2, code := jdk_29_method_65_code, exceptionTable := #[], attributes := #[] }
def k17m1 : Method := { name := "max", desc := "(II)I", sig := { parameters := [.int, .int], returnType := some .int }, accessFlags := 9, code := some k17c1 }
def k17c2 : Code := { maxStack := 2, maxLocals := 2, code := jdk_29_method_69_code, exceptionTable := #[], attributes := #[] }
def k17m2 : Method := { name := "min", desc := "(II)I", sig := { parameters := [.int, .int], returnType := some .int }, accessFlags := 9, code := some k17c2 }
/-- java/lang/Math -/
def k17 : Class := { plain "java/lang/Math" (some 0) with
  accessFlags := 49
  interfaces := #[]
  cf := some (fileOf pool17 1 #[.nestMembers #[98]] #[{ accessFlags := 2, nameIndex := 7, descriptorIndex := 8, attributes := #[] }, { accessFlags := 9, nameIndex := 198, descriptorIndex := 335, attributes := #[] }, { accessFlags := 9, nameIndex := 201, descriptorIndex := 335, attributes := #[] }] 49 4 #[] #[{ accessFlags := 25, nameIndex := 354, descriptorIndex := 339, attributes := #[] }, { accessFlags := 25, nameIndex := 358, descriptorIndex := 339, attributes := #[] }, { accessFlags := 25, nameIndex := 361, descriptorIndex := 339, attributes := #[] }, { accessFlags := 26, nameIndex := 364, descriptorIndex := 339, attributes := #[] }, { accessFlags := 26, nameIndex := 365, descriptorIndex := 339, attributes := #[] }, { accessFlags := 26, nameIndex := 172, descriptorIndex := 173, attributes := #[] }, { accessFlags := 26, nameIndex := 176, descriptorIndex := 173, attributes := #[] }, { accessFlags := 8, nameIndex := 344, descriptorIndex := 339, attributes := #[] }, { accessFlags := 8, nameIndex := 338, descriptorIndex := 339, attributes := #[] }, { accessFlags := 4120, nameIndex := 245, descriptorIndex := 246, attributes := #[] }])
  fields := #[{ name := "E", type := .double, accessFlags := 25, slot := 0, constantValue := 0 }, { name := "PI", type := .double, accessFlags := 25, slot := 1, constantValue := 0 }, { name := "TAU", type := .double, accessFlags := 25, slot := 2, constantValue := 0 }, { name := "DEGREES_TO_RADIANS", type := .double, accessFlags := 26, slot := 3, constantValue := 0 }, { name := "RADIANS_TO_DEGREES", type := .double, accessFlags := 26, slot := 4, constantValue := 0 }, { name := "negativeZeroFloatBits", type := .long, accessFlags := 26, slot := 5, constantValue := 0 }, { name := "negativeZeroDoubleBits", type := .long, accessFlags := 26, slot := 6, constantValue := 0 }, { name := "twoToTheDoubleScaleUp", type := .double, accessFlags := 8, slot := 7, constantValue := 0 }, { name := "twoToTheDoubleScaleDown", type := .double, accessFlags := 8, slot := 8, constantValue := 0 }, { name := "$assertionsDisabled", type := .boolean, accessFlags := 4120, slot := 9, constantValue := 0 }]
  methods := #[k17m0, k17m1, k17m2]
  instanceTypes := #[]
  staticTypes := #[.double, .double, .double, .double, .double, .long, .long, .double, .double, .boolean]
  resolved := Array.replicate 460 none
  statics := none }

def pool18 : Array CpInfo := pool [(2, .class_ 4), (1, u "java/lang/Object"), (0, u "<init>"), (0, u "()V"), (1, .class_ 10), (1, u "java/lang/System"), (0, u "allowSecurityManager"), (0, u "I"), (16, u "cons"), (0, u "Ljava/io/Console;"), (77, .class_ 110), (1, u "java/lang/System$CallersHolder"), (43, u "initialErrStream"), (0, u "Ljava/io/PrintStream;"), (19, u "security"), (0, u "Ljava/lang/SecurityManager;"), (31, .class_ 209), (0, u "java/lang/System$1"), (7, u "props"), (0, u "Ljava/util/Properties;"), (2, u "lineSeparator"), (0, u "Ljava/lang/String;"), (96, .class_ 321), (1, u "java/lang/System$LoggerFinder"), (5, .class_ 328), (0, u "java/lang/System$Logger"), (67, u "err"), (2, u "out"), (91, u "notSupportedJnuEncoding"), (15, u "in"), (17, u "initialIn"), (0, u "Ljava/io/InputStream;"), (35, u "bootLayer"), (0, u "Ljava/lang/ModuleLayer;"), (99, .class_ 664), (0, u "java/lang/System$2"), (9, u "NEVER"), (2, u "MAYBE"), (49, u "arraycopy"), (0, u "(Ljava/lang/Object;ILjava/lang/Object;II)V"), (72, .class_ 802), (0, u "java/lang/System$Logger$Level")] 31

def k18m0 : Method := { name := "<init>", desc := "()V", sig := { parameters := [], returnType := none }, accessFlags := 2, code := none }
def k18m1 : Method := { name := "arraycopy", desc := "(Ljava/lang/Object;ILjava/lang/Object;II)V", sig := { parameters := [(.object "java/lang/Object"), .int, (.object "java/lang/Object"), .int, .int], returnType := none }, accessFlags := 265, code := none }
/-- java/lang/System -/
def k18 : Class := { plain "java/lang/System" (some 0) with
  accessFlags := 49
  interfaces := #[]
  cf := some (fileOf pool18 8 #[.nestMembers #[319, 327, 801, 108, 663, 208]] #[{ accessFlags := 2, nameIndex := 5, descriptorIndex := 6, attributes := #[] }, { accessFlags := 265, nameIndex := 727, descriptorIndex := 728, attributes := #[] }] 49 2 #[] #[{ accessFlags := 25, nameIndex := 507, descriptorIndex := 526, attributes := #[] }, { accessFlags := 25, nameIndex := 399, descriptorIndex := 155, attributes := #[] }, { accessFlags := 25, nameIndex := 396, descriptorIndex := 155, attributes := #[] }, { accessFlags := 10, nameIndex := 525, descriptorIndex := 526, attributes := #[] }, { accessFlags := 26, nameIndex := 674, descriptorIndex := 12, attributes := #[] }, { accessFlags := 26, nameIndex := 677, descriptorIndex := 12, attributes := #[] }, { accessFlags := 10, nameIndex := 11, descriptorIndex := 12, attributes := #[] }, { accessFlags := 74, nameIndex := 175, descriptorIndex := 176, attributes := #[] }, { accessFlags := 10, nameIndex := 491, descriptorIndex := 222, attributes := #[] }, { accessFlags := 74, nameIndex := 29, descriptorIndex := 30, attributes := #[] }, { accessFlags := 74, nameIndex := 154, descriptorIndex := 155, attributes := #[] }, { accessFlags := 10, nameIndex := 217, descriptorIndex := 218, attributes := #[] }, { accessFlags := 10, nameIndex := 221, descriptorIndex := 222, attributes := #[] }, { accessFlags := 8, nameIndex := 562, descriptorIndex := 563, attributes := #[] }])
  fields := #[{ name := "in", type := (.object "java/io/InputStream"), accessFlags := 25, slot := 0, constantValue := 0 }, { name := "out", type := (.object "java/io/PrintStream"), accessFlags := 25, slot := 1, constantValue := 0 }, { name := "err", type := (.object "java/io/PrintStream"), accessFlags := 25, slot := 2, constantValue := 0 }, { name := "initialIn", type := (.object "java/io/InputStream"), accessFlags := 10, slot := 3, constantValue := 0 }, { name := "NEVER", type := .int, accessFlags := 26, slot := 4, constantValue := 0 }, { name := "MAYBE", type := .int, accessFlags := 26, slot := 5, constantValue := 0 }, { name := "allowSecurityManager", type := .int, accessFlags := 10, slot := 6, constantValue := 0 }, { name := "security", type := (.object "java/lang/SecurityManager"), accessFlags := 74, slot := 7, constantValue := 0 }, { name := "notSupportedJnuEncoding", type := (.object "java/lang/String"), accessFlags := 10, slot := 8, constantValue := 0 }, { name := "cons", type := (.object "java/io/Console"), accessFlags := 74, slot := 9, constantValue := 0 }, { name := "initialErrStream", type := (.object "java/io/PrintStream"), accessFlags := 74, slot := 10, constantValue := 0 }, { name := "props", type := (.object "java/util/Properties"), accessFlags := 10, slot := 11, constantValue := 0 }, { name := "lineSeparator", type := (.object "java/lang/String"), accessFlags := 10, slot := 12, constantValue := 0 }, { name := "bootLayer", type := (.object "java/lang/ModuleLayer"), accessFlags := 8, slot := 13, constantValue := 0 }]
  methods := #[k18m0, k18m1]
  instanceTypes := #[]
  staticTypes := #[(.object "java/io/InputStream"), (.object "java/io/PrintStream"), (.object "java/io/PrintStream"), (.object "java/io/InputStream"), .int, .int, .int, (.object "java/lang/SecurityManager"), (.object "java/lang/String"), (.object "java/io/Console"), (.object "java/io/PrintStream"), (.object "java/util/Properties"), (.object "java/lang/String"), (.object "java/lang/ModuleLayer")]
  resolved := Array.replicate 834 none
  statics := none }

/-- the primitive byte -/
def k19 : Class := { plain "byte" none with kind := .primitive 'B', accessFlags := 0x411 }
/-- [B -/
def k20 : Class := { plain "[B" (some 0) with kind := .array 19 .byte, interfaces := #[13, 6], accessFlags := 1041 }

/-- the primitive int -/
def k21 : Class := { plain "int" none with kind := .primitive 'I', accessFlags := 0x411 }
/-- [I -/
def k22 : Class := { plain "[I" (some 0) with kind := .array 21 .int, interfaces := #[13, 6], accessFlags := 1041 }

def heap : Heap := #[{ cls := 11, slots := #[.long 0, .int 1, .null, .int 0, .null, .int 0, .int 0], vm := .statics 11 },
  { cls := 15, slots := #[.null, .null, .null], vm := .statics 15 }]
def classes : Array Class := #[k0, k1, k2, k3, k4, k5, k6, k7, k8, k9, k10, k11, k12, k13, k14, k15, k16, k17, k18, k19, k20, k21, k22]
def interned : List (Array UInt16 × Addr) := []
def slotsUsed : Nat := 10
def theMethod : MethodId := ⟨1, 1⟩
def args0 : Array Value := #[.int 5, .int 3, .int 4, .int 6]
def aboutOver (below : List Frame) : State where
  vm := { classes := classes, interned := interned.toArray }
  heap := heap
  slotsUsed := slotsUsed
  threads := #[{ frames := .invoking theMethod args0 :: below }]
def below0 : List Frame := [.native { method := ⟨0, 0⟩, args := #[] }]
def about1 : State := aboutOver below0
def p0 : Program := .bare "" "" ""
def e0 : Env := launch0.env 0 0 0
theorem w_frames : about1.frames = Frame.invoking theMethod args0 :: below0 := rfl
set_option maxRecDepth 65536 in
theorem w_args : argsFit about1.vm theMethod args0 = true := by decide +kernel
set_option maxRecDepth 65536 in
theorem w_heap : heapFits about1 = true := by decide +kernel
set_option maxRecDepth 65536 in
theorem w_runnable : about1.curStatus? = some .runnable := by decide +kernel
set_option maxRecDepth 65536 in
theorem w_alone : about1.alone = true := by decide +kernel
set_option maxRecDepth 65536 in
theorem w_named : about1.methodNamed? x = some theMethod := by decide +kernel
set_option maxRecDepth 65536 in
theorem w_hears : about1.hears theMethod below0 = true := by decide +kernel
set_option maxRecDepth 65536 in
theorem w_ripe : about1.ripe theMethod args0 below0 = true := by decide +kernel
theorem w_running : about1.status = .running := rfl
set_option maxRecDepth 65536 in
theorem w_room : about1.hasRoom e0.platform room_1 = true :=
  launch0.hasRoom_least _ room_1 (by decide +kernel) (by decide +kernel) (by decide +kernel) (by decide +kernel) (by decide +kernel) (by decide +kernel)
theorem allAtoms_all (ts : List Jvm.Cond) (a : Array Jvm.Value) (st : Jvm.State) : (allAtoms ts).before a st = ts.all (fun c => c.before a st) := by
  induction ts with
  | nil => rfl
  | cons c t ih =>
    show (Jvm.Cond.and c (allAtoms t)).before a st = _
    rw [Jvm.Cond.before_and, ih, List.all_cons]
def words1 : List Jvm.Cond := Jvm.Cond.code x code maxLocals ret :: tables_1
/-- a 'code' word, met by the world's own term for the bytes: nothing is compared byte by byte -/
theorem code_word {y : MethodName} {bytes : ByteArray} {mx : Nat} {rt : Option FieldType} {a : Array Value} {s : State} {m : MethodId} {meth : Method} {c : Code} (h1 : s.methodNamed? y = some m) (h2 : s.vm.method? m = some meth) (h3 : meth.code = some c) (h4 : c.code = bytes)
    (h5 : (c.maxLocals == mx && c.exceptionTable.isEmpty && decide (c.maxStack ≤ mostOperands) && decide (meth.sig.returnType = rt) && !meth.locks && decide (parseMethodDescriptor y.desc = some meth.sig)) = true) : (Jvm.Cond.code y bytes mx rt).before a s = true := by
  simp only [Bool.and_eq_true, beq_iff_eq, Bool.not_eq_true', decide_eq_true_eq] at h5
  obtain ⟨⟨⟨⟨⟨g1, g2⟩, g3⟩, g4⟩, g5⟩, g6⟩ := h5
  simp [Cond.before, Cond.holds, Cond.value, h1, h2, h3, h4, g1, g2, g3, g4, g5, g6]
def isCode : Jvm.Cond → Bool
  | .code _ _ _ _ => true
  | _ => false
theorem all_split {L : List Jvm.Cond} {P : Jvm.Cond → Bool} (h1 : L.all (fun c => isCode c || P c) = true) (h2 : ∀ c ∈ L.filter isCode, P c = true) : L.all P = true := by
  refine List.all_eq_true.mpr fun c hc => ?_
  have h := List.all_eq_true.mp h1 c hc
  rcases Bool.eq_false_or_eq_true (isCode c) with hi | hi
  · exact h2 c (List.mem_filter.mpr ⟨hc, hi⟩)
  · simpa [hi] using h
set_option maxRecDepth 65536 in
theorem w_c0 : (Jvm.Cond.code x code maxLocals ret).before args0 about1 = true := code_word (m := ⟨1, 1⟩) (meth := k1m1) (c := k1c1) (by decide +kernel) rfl rfl rfl (by decide +kernel)
set_option maxRecDepth 65536 in
theorem w_c1 : (Jvm.Cond.code ({ cls := "com/example/permgrid/permgrid/PercentEncoding", name := "encode", desc := "([B)Ljava/lang/String;" } : Jvm.MethodName) prog_35_method_5_code (7 : Nat) (Option.some (Jvm.ClassFile.FieldType.object "java/lang/String"))).before args0 about1 = true := code_word (m := ⟨2, 1⟩) (meth := k2m1) (c := k2c1) (by decide +kernel) rfl rfl rfl (by decide +kernel)
set_option maxRecDepth 65536 in
theorem w_c2 : (Jvm.Cond.code ({ cls := "java/lang/StringBuilder", name := "<init>", desc := "(I)V" } : Jvm.MethodName) jdk_67_method_2_code (2 : Nat) (Option.none : Option Jvm.ClassFile.FieldType)).before args0 about1 = true := code_word (m := ⟨8, 1⟩) (meth := k8m1) (c := k8c1) (by decide +kernel) rfl rfl rfl (by decide +kernel)
set_option maxRecDepth 65536 in
theorem w_c3 : (Jvm.Cond.code ({ cls := "java/lang/AbstractStringBuilder", name := "<init>", desc := "(I)V" } : Jvm.MethodName) jdk_68_method_2_code (2 : Nat) (Option.none : Option Jvm.ClassFile.FieldType)).before args0 about1 = true := code_word (m := ⟨5, 1⟩) (meth := k5m1) (c := k5c1) (by decide +kernel) rfl rfl rfl (by decide +kernel)
set_option maxRecDepth 65536 in
theorem w_c4 : (Jvm.Cond.code ({ cls := "java/lang/Object", name := "<init>", desc := "()V" } : Jvm.MethodName) object_method_1_code (1 : Nat) (Option.none : Option Jvm.ClassFile.FieldType)).before args0 about1 = true := code_word (m := ⟨0, 0⟩) (meth := k0m0) (c := k0c0) (by decide +kernel) rfl rfl rfl (by decide +kernel)
set_option maxRecDepth 65536 in
theorem w_c5 : (Jvm.Cond.code ({ cls := "java/lang/StringBuilder", name := "toString", desc := "()Ljava/lang/String;" } : Jvm.MethodName) jdk_67_method_42_code (1 : Nat) (Option.some (Jvm.ClassFile.FieldType.object "java/lang/String"))).before args0 about1 = true := code_word (m := ⟨8, 3⟩) (meth := k8m3) (c := k8c3) (by decide +kernel) rfl rfl rfl (by decide +kernel)
set_option maxRecDepth 65536 in
theorem w_c6 : (Jvm.Cond.code ({ cls := "java/lang/String", name := "<init>", desc := "(Ljava/lang/StringBuilder;)V" } : Jvm.MethodName) jdk_42_method_53_code (2 : Nat) (Option.none : Option Jvm.ClassFile.FieldType)).before args0 about1 = true := code_word (m := ⟨11, 1⟩) (meth := k11m1) (c := k11c1) (by decide +kernel) rfl rfl rfl (by decide +kernel)
set_option maxRecDepth 65536 in
theorem w_c7 : (Jvm.Cond.code ({ cls := "java/lang/String", name := "<init>", desc := "(Ljava/lang/AbstractStringBuilder;Ljava/lang/Void;)V" } : Jvm.MethodName) jdk_42_method_150_code (5 : Nat) (Option.none : Option Jvm.ClassFile.FieldType)).before args0 about1 = true := code_word (m := ⟨11, 4⟩) (meth := k11m4) (c := k11c4) (by decide +kernel) rfl rfl rfl (by decide +kernel)
set_option maxRecDepth 65536 in
theorem w_c8 : (Jvm.Cond.code ({ cls := "java/lang/AbstractStringBuilder", name := "getValue", desc := "()[B" } : Jvm.MethodName) jdk_68_method_64_code (1 : Nat) (Option.some (Jvm.ClassFile.FieldType.array Jvm.ClassFile.FieldType.byte))).before args0 about1 = true := code_word (m := ⟨5, 6⟩) (meth := k5m6) (c := k5c6) (by decide +kernel) rfl rfl rfl (by decide +kernel)
set_option maxRecDepth 65536 in
theorem w_c9 : (Jvm.Cond.code ({ cls := "java/lang/StringBuilder", name := "length", desc := "()I" } : Jvm.MethodName) jdk_67_method_93_code (1 : Nat) (Option.some Jvm.ClassFile.FieldType.int)).before args0 about1 = true := code_word (m := ⟨8, 4⟩) (meth := k8m4) (c := k8c4) (by decide +kernel) rfl rfl rfl (by decide +kernel)
set_option maxRecDepth 65536 in
theorem w_c10 : (Jvm.Cond.code ({ cls := "java/lang/AbstractStringBuilder", name := "length", desc := "()I" } : Jvm.MethodName) jdk_68_method_6_code (1 : Nat) (Option.some Jvm.ClassFile.FieldType.int)).before args0 about1 = true := code_word (m := ⟨5, 2⟩) (meth := k5m2) (c := k5c2) (by decide +kernel) rfl rfl rfl (by decide +kernel)
set_option maxRecDepth 65536 in
theorem w_c11 : (Jvm.Cond.code ({ cls := "java/lang/AbstractStringBuilder", name := "isLatin1", desc := "()Z" } : Jvm.MethodName) jdk_68_method_68_code (1 : Nat) (Option.some Jvm.ClassFile.FieldType.boolean)).before args0 about1 = true := code_word (m := ⟨5, 7⟩) (meth := k5m7) (c := k5c7) (by decide +kernel) rfl rfl rfl (by decide +kernel)
set_option maxRecDepth 65536 in
theorem w_c12 : (Jvm.Cond.code ({ cls := "java/util/Arrays", name := "copyOfRange", desc := "([BII)[B" } : Jvm.MethodName) jdk_65_method_132_code (3 : Nat) (Option.some (Jvm.ClassFile.FieldType.array Jvm.ClassFile.FieldType.byte))).before args0 about1 = true := code_word (m := ⟨12, 3⟩) (meth := k12m3) (c := k12c3) (by decide +kernel) rfl rfl rfl (by decide +kernel)
set_option maxRecDepth 65536 in
theorem w_c13 : (Jvm.Cond.code ({ cls := "java/lang/String", name := "length", desc := "()I" } : Jvm.MethodName) jdk_42_method_54_code (1 : Nat) (Option.some Jvm.ClassFile.FieldType.int)).before args0 about1 = true := code_word (m := ⟨11, 2⟩) (meth := k11m2) (c := k11c2) (by decide +kernel) rfl rfl rfl (by decide +kernel)
set_option maxRecDepth 65536 in
theorem w_c14 : (Jvm.Cond.code ({ cls := "java/lang/String", name := "coder", desc := "()B" } : Jvm.MethodName) jdk_42_method_152_code (1 : Nat) (Option.some Jvm.ClassFile.FieldType.byte)).before args0 about1 = true := code_word (m := ⟨11, 5⟩) (meth := k11m5) (c := k11c5) (by decide +kernel) rfl rfl rfl (by decide +kernel)
set_option maxRecDepth 65536 in
theorem w_c15 : (Jvm.Cond.code ({ cls := "java/lang/StringBuilder", name := "append", desc := "(C)Ljava/lang/StringBuilder;" } : Jvm.MethodName) jdk_67_method_14_code (2 : Nat) (Option.some (Jvm.ClassFile.FieldType.object "java/lang/StringBuilder"))).before args0 about1 = true := code_word (m := ⟨8, 2⟩) (meth := k8m2) (c := k8c2) (by decide +kernel) rfl rfl rfl (by decide +kernel)
set_option maxRecDepth 65536 in
theorem w_c16 : (Jvm.Cond.code ({ cls := "java/lang/AbstractStringBuilder", name := "append", desc := "(C)Ljava/lang/AbstractStringBuilder;" } : Jvm.MethodName) jdk_68_method_31_code (2 : Nat) (Option.some (Jvm.ClassFile.FieldType.object "java/lang/AbstractStringBuilder"))).before args0 about1 = true := code_word (m := ⟨5, 5⟩) (meth := k5m5) (c := k5c5) (by decide +kernel) rfl rfl rfl (by decide +kernel)
set_option maxRecDepth 65536 in
theorem w_c17 : (Jvm.Cond.code ({ cls := "java/lang/AbstractStringBuilder", name := "ensureCapacityInternal", desc := "(I)V" } : Jvm.MethodName) jdk_68_method_9_code (3 : Nat) (Option.none : Option Jvm.ClassFile.FieldType)).before args0 about1 = true := code_word (m := ⟨5, 3⟩) (meth := k5m3) (c := k5c3) (by decide +kernel) rfl rfl rfl (by decide +kernel)
set_option maxRecDepth 65536 in
theorem w_c18 : (Jvm.Cond.code ({ cls := "java/lang/StringLatin1", name := "canEncode", desc := "(C)Z" } : Jvm.MethodName) jdk_43_method_3_code (1 : Nat) (Option.some Jvm.ClassFile.FieldType.boolean)).before args0 about1 = true := code_word (m := ⟨14, 2⟩) (meth := k14m2) (c := k14c2) (by decide +kernel) rfl rfl rfl (by decide +kernel)
set_option maxRecDepth 65536 in
theorem w_c19 : (Jvm.Cond.code ({ cls := "java/lang/String", name := "charAt", desc := "(I)C" } : Jvm.MethodName) jdk_42_method_56_code (2 : Nat) (Option.some Jvm.ClassFile.FieldType.char)).before args0 about1 = true := code_word (m := ⟨11, 3⟩) (meth := k11m3) (c := k11c3) (by decide +kernel) rfl rfl rfl (by decide +kernel)
set_option maxRecDepth 65536 in
theorem w_c20 : (Jvm.Cond.code ({ cls := "java/lang/String", name := "isLatin1", desc := "()Z" } : Jvm.MethodName) jdk_42_method_154_code (1 : Nat) (Option.some Jvm.ClassFile.FieldType.boolean)).before args0 about1 = true := code_word (m := ⟨11, 6⟩) (meth := k11m6) (c := k11c6) (by decide +kernel) rfl rfl rfl (by decide +kernel)
set_option maxRecDepth 65536 in
theorem w_c21 : (Jvm.Cond.code ({ cls := "java/lang/StringLatin1", name := "charAt", desc := "([BI)C" } : Jvm.MethodName) jdk_43_method_2_code (2 : Nat) (Option.some Jvm.ClassFile.FieldType.char)).before args0 about1 = true := code_word (m := ⟨14, 1⟩) (meth := k14m1) (c := k14c1) (by decide +kernel) rfl rfl rfl (by decide +kernel)
set_option maxRecDepth 65536 in
theorem w_c22 : (Jvm.Cond.code ({ cls := "java/lang/String", name := "checkIndex", desc := "(II)V" } : Jvm.MethodName) jdk_42_method_155_code (2 : Nat) (Option.none : Option Jvm.ClassFile.FieldType)).before args0 about1 = true := code_word (m := ⟨11, 7⟩) (meth := k11m7) (c := k11c7) (by decide +kernel) rfl rfl rfl (by decide +kernel)
set_option maxRecDepth 65536 in
theorem w_c23 : (Jvm.Cond.code ({ cls := "jdk/internal/util/Preconditions", name := "checkIndex", desc := "(IILjava/util/function/BiFunction;)I" } : Jvm.MethodName) jdk_41_method_11_code (3 : Nat) (Option.some Jvm.ClassFile.FieldType.int)).before args0 about1 = true := code_word (m := ⟨15, 1⟩) (meth := k15m1) (c := k15c1) (by decide +kernel) rfl rfl rfl (by decide +kernel)
set_option maxRecDepth 65536 in
theorem w_c24 : (Jvm.Cond.code ({ cls := "java/lang/AbstractStringBuilder", name := "newCapacity", desc := "(I)I" } : Jvm.MethodName) jdk_68_method_10_code (6 : Nat) (Option.some Jvm.ClassFile.FieldType.int)).before args0 about1 = true := code_word (m := ⟨5, 4⟩) (meth := k5m4) (c := k5c4) (by decide +kernel) rfl rfl rfl (by decide +kernel)
set_option maxRecDepth 65536 in
theorem w_c25 : (Jvm.Cond.code ({ cls := "jdk/internal/util/ArraysSupport", name := "newLength", desc := "(III)I" } : Jvm.MethodName) jdk_48_method_27_code (4 : Nat) (Option.some Jvm.ClassFile.FieldType.int)).before args0 about1 = true := code_word (m := ⟨16, 1⟩) (meth := k16m1) (c := k16c1) (by decide +kernel) rfl rfl rfl (by decide +kernel)
set_option maxRecDepth 65536 in
theorem w_c26 : (Jvm.Cond.code ({ cls := "java/lang/Math", name := "max", desc := "(II)I" } : Jvm.MethodName) jdk_29_method_65_code (2 : Nat) (Option.some Jvm.ClassFile.FieldType.int)).before args0 about1 = true := code_word (m := ⟨17, 1⟩) (meth := k17m1) (c := k17c1) (by decide +kernel) rfl rfl rfl (by decide +kernel)
set_option maxRecDepth 65536 in
theorem w_c27 : (Jvm.Cond.code ({ cls := "java/util/Arrays", name := "copyOf", desc := "([BI)[B" } : Jvm.MethodName) jdk_65_method_121_code (3 : Nat) (Option.some (Jvm.ClassFile.FieldType.array Jvm.ClassFile.FieldType.byte))).before args0 about1 = true := code_word (m := ⟨12, 1⟩) (meth := k12m1) (c := k12c1) (by decide +kernel) rfl rfl rfl (by decide +kernel)
set_option maxRecDepth 65536 in
theorem w_c28 : (Jvm.Cond.code ({ cls := "java/lang/Math", name := "min", desc := "(II)I" } : Jvm.MethodName) jdk_29_method_69_code (2 : Nat) (Option.some Jvm.ClassFile.FieldType.int)).before args0 about1 = true := code_word (m := ⟨17, 2⟩) (meth := k17m2) (c := k17c2) (by decide +kernel) rfl rfl rfl (by decide +kernel)
set_option maxRecDepth 65536 in
theorem w_c29 : (Jvm.Cond.code ({ cls := "java/util/Arrays", name := "copyOfRangeByte", desc := "([BII)[B" } : Jvm.MethodName) jdk_65_method_133_code (5 : Nat) (Option.some (Jvm.ClassFile.FieldType.array Jvm.ClassFile.FieldType.byte))).before args0 about1 = true := code_word (m := ⟨12, 4⟩) (meth := k12m4) (c := k12c4) (by decide +kernel) rfl rfl rfl (by decide +kernel)
set_option maxRecDepth 65536 in
theorem w_c30 : (Jvm.Cond.code ({ cls := "java/util/Arrays", name := "checkLength", desc := "(II)V" } : Jvm.MethodName) jdk_65_method_131_code (2 : Nat) (Option.none : Option Jvm.ClassFile.FieldType)).before args0 about1 = true := code_word (m := ⟨12, 2⟩) (meth := k12m2) (c := k12c2) (by decide +kernel) rfl rfl rfl (by decide +kernel)
set_option maxRecDepth 65536 in
theorem w_c31 : (Jvm.Cond.code ({ cls := "com/example/permgrid/permgrid/PercentEncodingEncodePinLaw", name := "seg", desc := "(Ljava/lang/String;II)I" } : Jvm.MethodName) method_5_code (3 : Nat) (Option.some Jvm.ClassFile.FieldType.int)).before args0 about1 = true := code_word (m := ⟨1, 4⟩) (meth := k1m4) (c := k1c4) (by decide +kernel) rfl rfl rfl (by decide +kernel)
set_option maxRecDepth 65536 in
theorem w_c32 : (Jvm.Cond.code ({ cls := "com/example/permgrid/permgrid/PercentEncodingEncodePinLaw", name := "unreserved", desc := "(I)Z" } : Jvm.MethodName) method_3_code (1 : Nat) (Option.some Jvm.ClassFile.FieldType.boolean)).before args0 about1 = true := code_word (m := ⟨1, 2⟩) (meth := k1m2) (c := k1c2) (by decide +kernel) rfl rfl rfl (by decide +kernel)
set_option maxRecDepth 65536 in
theorem w_c33 : (Jvm.Cond.code ({ cls := "com/example/permgrid/permgrid/PercentEncodingEncodePinLaw", name := "hex", desc := "(I)C" } : Jvm.MethodName) method_4_code (1 : Nat) (Option.some Jvm.ClassFile.FieldType.char)).before args0 about1 = true := code_word (m := ⟨1, 3⟩) (meth := k1m3) (c := k1c3) (by decide +kernel) rfl rfl rfl (by decide +kernel)
def codes1 : List Jvm.Cond := [Jvm.Cond.code x code maxLocals ret, Jvm.Cond.code ({ cls := "com/example/permgrid/permgrid/PercentEncoding", name := "encode", desc := "([B)Ljava/lang/String;" } : Jvm.MethodName) prog_35_method_5_code (7 : Nat) (Option.some (Jvm.ClassFile.FieldType.object "java/lang/String")), Jvm.Cond.code ({ cls := "java/lang/StringBuilder", name := "<init>", desc := "(I)V" } : Jvm.MethodName) jdk_67_method_2_code (2 : Nat) (Option.none : Option Jvm.ClassFile.FieldType), Jvm.Cond.code ({ cls := "java/lang/AbstractStringBuilder", name := "<init>", desc := "(I)V" } : Jvm.MethodName) jdk_68_method_2_code (2 : Nat) (Option.none : Option Jvm.ClassFile.FieldType), Jvm.Cond.code ({ cls := "java/lang/Object", name := "<init>", desc := "()V" } : Jvm.MethodName) object_method_1_code (1 : Nat) (Option.none : Option Jvm.ClassFile.FieldType), Jvm.Cond.code ({ cls := "java/lang/StringBuilder", name := "toString", desc := "()Ljava/lang/String;" } : Jvm.MethodName) jdk_67_method_42_code (1 : Nat) (Option.some (Jvm.ClassFile.FieldType.object "java/lang/String")), Jvm.Cond.code ({ cls := "java/lang/String", name := "<init>", desc := "(Ljava/lang/StringBuilder;)V" } : Jvm.MethodName) jdk_42_method_53_code (2 : Nat) (Option.none : Option Jvm.ClassFile.FieldType), Jvm.Cond.code ({ cls := "java/lang/String", name := "<init>", desc := "(Ljava/lang/AbstractStringBuilder;Ljava/lang/Void;)V" } : Jvm.MethodName) jdk_42_method_150_code (5 : Nat) (Option.none : Option Jvm.ClassFile.FieldType), Jvm.Cond.code ({ cls := "java/lang/AbstractStringBuilder", name := "getValue", desc := "()[B" } : Jvm.MethodName) jdk_68_method_64_code (1 : Nat) (Option.some (Jvm.ClassFile.FieldType.array Jvm.ClassFile.FieldType.byte)), Jvm.Cond.code ({ cls := "java/lang/StringBuilder", name := "length", desc := "()I" } : Jvm.MethodName) jdk_67_method_93_code (1 : Nat) (Option.some Jvm.ClassFile.FieldType.int), Jvm.Cond.code ({ cls := "java/lang/AbstractStringBuilder", name := "length", desc := "()I" } : Jvm.MethodName) jdk_68_method_6_code (1 : Nat) (Option.some Jvm.ClassFile.FieldType.int), Jvm.Cond.code ({ cls := "java/lang/AbstractStringBuilder", name := "isLatin1", desc := "()Z" } : Jvm.MethodName) jdk_68_method_68_code (1 : Nat) (Option.some Jvm.ClassFile.FieldType.boolean), Jvm.Cond.code ({ cls := "java/util/Arrays", name := "copyOfRange", desc := "([BII)[B" } : Jvm.MethodName) jdk_65_method_132_code (3 : Nat) (Option.some (Jvm.ClassFile.FieldType.array Jvm.ClassFile.FieldType.byte)), Jvm.Cond.code ({ cls := "java/lang/String", name := "length", desc := "()I" } : Jvm.MethodName) jdk_42_method_54_code (1 : Nat) (Option.some Jvm.ClassFile.FieldType.int), Jvm.Cond.code ({ cls := "java/lang/String", name := "coder", desc := "()B" } : Jvm.MethodName) jdk_42_method_152_code (1 : Nat) (Option.some Jvm.ClassFile.FieldType.byte), Jvm.Cond.code ({ cls := "java/lang/StringBuilder", name := "append", desc := "(C)Ljava/lang/StringBuilder;" } : Jvm.MethodName) jdk_67_method_14_code (2 : Nat) (Option.some (Jvm.ClassFile.FieldType.object "java/lang/StringBuilder")), Jvm.Cond.code ({ cls := "java/lang/AbstractStringBuilder", name := "append", desc := "(C)Ljava/lang/AbstractStringBuilder;" } : Jvm.MethodName) jdk_68_method_31_code (2 : Nat) (Option.some (Jvm.ClassFile.FieldType.object "java/lang/AbstractStringBuilder")), Jvm.Cond.code ({ cls := "java/lang/AbstractStringBuilder", name := "ensureCapacityInternal", desc := "(I)V" } : Jvm.MethodName) jdk_68_method_9_code (3 : Nat) (Option.none : Option Jvm.ClassFile.FieldType), Jvm.Cond.code ({ cls := "java/lang/StringLatin1", name := "canEncode", desc := "(C)Z" } : Jvm.MethodName) jdk_43_method_3_code (1 : Nat) (Option.some Jvm.ClassFile.FieldType.boolean), Jvm.Cond.code ({ cls := "java/lang/String", name := "charAt", desc := "(I)C" } : Jvm.MethodName) jdk_42_method_56_code (2 : Nat) (Option.some Jvm.ClassFile.FieldType.char), Jvm.Cond.code ({ cls := "java/lang/String", name := "isLatin1", desc := "()Z" } : Jvm.MethodName) jdk_42_method_154_code (1 : Nat) (Option.some Jvm.ClassFile.FieldType.boolean), Jvm.Cond.code ({ cls := "java/lang/StringLatin1", name := "charAt", desc := "([BI)C" } : Jvm.MethodName) jdk_43_method_2_code (2 : Nat) (Option.some Jvm.ClassFile.FieldType.char), Jvm.Cond.code ({ cls := "java/lang/String", name := "checkIndex", desc := "(II)V" } : Jvm.MethodName) jdk_42_method_155_code (2 : Nat) (Option.none : Option Jvm.ClassFile.FieldType), Jvm.Cond.code ({ cls := "jdk/internal/util/Preconditions", name := "checkIndex", desc := "(IILjava/util/function/BiFunction;)I" } : Jvm.MethodName) jdk_41_method_11_code (3 : Nat) (Option.some Jvm.ClassFile.FieldType.int), Jvm.Cond.code ({ cls := "java/lang/AbstractStringBuilder", name := "newCapacity", desc := "(I)I" } : Jvm.MethodName) jdk_68_method_10_code (6 : Nat) (Option.some Jvm.ClassFile.FieldType.int), Jvm.Cond.code ({ cls := "jdk/internal/util/ArraysSupport", name := "newLength", desc := "(III)I" } : Jvm.MethodName) jdk_48_method_27_code (4 : Nat) (Option.some Jvm.ClassFile.FieldType.int), Jvm.Cond.code ({ cls := "java/lang/Math", name := "max", desc := "(II)I" } : Jvm.MethodName) jdk_29_method_65_code (2 : Nat) (Option.some Jvm.ClassFile.FieldType.int), Jvm.Cond.code ({ cls := "java/util/Arrays", name := "copyOf", desc := "([BI)[B" } : Jvm.MethodName) jdk_65_method_121_code (3 : Nat) (Option.some (Jvm.ClassFile.FieldType.array Jvm.ClassFile.FieldType.byte)), Jvm.Cond.code ({ cls := "java/lang/Math", name := "min", desc := "(II)I" } : Jvm.MethodName) jdk_29_method_69_code (2 : Nat) (Option.some Jvm.ClassFile.FieldType.int), Jvm.Cond.code ({ cls := "java/util/Arrays", name := "copyOfRangeByte", desc := "([BII)[B" } : Jvm.MethodName) jdk_65_method_133_code (5 : Nat) (Option.some (Jvm.ClassFile.FieldType.array Jvm.ClassFile.FieldType.byte)), Jvm.Cond.code ({ cls := "java/util/Arrays", name := "checkLength", desc := "(II)V" } : Jvm.MethodName) jdk_65_method_131_code (2 : Nat) (Option.none : Option Jvm.ClassFile.FieldType), Jvm.Cond.code ({ cls := "com/example/permgrid/permgrid/PercentEncodingEncodePinLaw", name := "seg", desc := "(Ljava/lang/String;II)I" } : Jvm.MethodName) method_5_code (3 : Nat) (Option.some Jvm.ClassFile.FieldType.int), Jvm.Cond.code ({ cls := "com/example/permgrid/permgrid/PercentEncodingEncodePinLaw", name := "unreserved", desc := "(I)Z" } : Jvm.MethodName) method_3_code (1 : Nat) (Option.some Jvm.ClassFile.FieldType.boolean), Jvm.Cond.code ({ cls := "com/example/permgrid/permgrid/PercentEncodingEncodePinLaw", name := "hex", desc := "(I)C" } : Jvm.MethodName) method_4_code (1 : Nat) (Option.some Jvm.ClassFile.FieldType.char)]
set_option maxRecDepth 65536 in
theorem codes_eq : words1.filter isCode = codes1 := rfl
theorem w_codes : ∀ c ∈ words1.filter isCode, c.before args0 about1 = true := by
  rw [codes_eq]
  intro c hc
  simp only [codes1, List.mem_cons, List.not_mem_nil, or_false] at hc
  rcases hc with rfl | rfl | rfl | rfl | rfl | rfl | rfl | rfl | rfl | rfl | rfl | rfl | rfl | rfl | rfl | rfl | rfl | rfl | rfl | rfl | rfl | rfl | rfl | rfl | rfl | rfl | rfl | rfl | rfl | rfl | rfl | rfl | rfl | rfl
  · exact w_c0
  · exact w_c1
  · exact w_c2
  · exact w_c3
  · exact w_c4
  · exact w_c5
  · exact w_c6
  · exact w_c7
  · exact w_c8
  · exact w_c9
  · exact w_c10
  · exact w_c11
  · exact w_c12
  · exact w_c13
  · exact w_c14
  · exact w_c15
  · exact w_c16
  · exact w_c17
  · exact w_c18
  · exact w_c19
  · exact w_c20
  · exact w_c21
  · exact w_c22
  · exact w_c23
  · exact w_c24
  · exact w_c25
  · exact w_c26
  · exact w_c27
  · exact w_c28
  · exact w_c29
  · exact w_c30
  · exact w_c31
  · exact w_c32
  · exact w_c33
set_option maxRecDepth 65536 in
theorem w_t1 : (words1.take 24).all (fun c => isCode c || c.before args0 about1) = true := by decide +kernel
set_option maxRecDepth 65536 in
theorem w_t2 : ((words1.drop 24).take 24).all (fun c => isCode c || c.before args0 about1) = true := by decide +kernel
set_option maxRecDepth 65536 in
theorem w_t3 : (((words1.drop 24).drop 24).take 24).all (fun c => isCode c || c.before args0 about1) = true := by decide +kernel
set_option maxRecDepth 65536 in
theorem w_t4 : ((((words1.drop 24).drop 24).drop 24).take 24).all (fun c => isCode c || c.before args0 about1) = true := by decide +kernel
set_option maxRecDepth 65536 in
theorem w_t5 : (((((words1.drop 24).drop 24).drop 24).drop 24).take 24).all (fun c => isCode c || c.before args0 about1) = true := by decide +kernel
set_option maxRecDepth 65536 in
theorem w_t6 : ((((((words1.drop 24).drop 24).drop 24).drop 24).drop 24).take 24).all (fun c => isCode c || c.before args0 about1) = true := by decide +kernel
set_option maxRecDepth 65536 in
theorem w_t7 : (((((((words1.drop 24).drop 24).drop 24).drop 24).drop 24).drop 24).take 24).all (fun c => isCode c || c.before args0 about1) = true := by decide +kernel
set_option maxRecDepth 65536 in
theorem w_t8 : (((((((words1.drop 24).drop 24).drop 24).drop 24).drop 24).drop 24).drop 24).all (fun c => isCode c || c.before args0 about1) = true := by decide +kernel
theorem w_tables : (allAtoms (Jvm.Cond.code x code maxLocals ret :: tables_1)).before args0 about1 = true := by
  rw [allAtoms_all]
  show words1.all (fun c => c.before args0 about1) = true
  refine all_split ?_ w_codes
  rw [← List.take_append_drop 24 words1, List.all_append, w_t1, ← List.take_append_drop 24 (words1.drop 24), List.all_append, w_t2, ← List.take_append_drop 24 ((words1.drop 24).drop 24), List.all_append, w_t3, ← List.take_append_drop 24 (((words1.drop 24).drop 24).drop 24), List.all_append, w_t4, ← List.take_append_drop 24 ((((words1.drop 24).drop 24).drop 24).drop 24), List.all_append, w_t5, ← List.take_append_drop 24 (((((words1.drop 24).drop 24).drop 24).drop 24).drop 24), List.all_append, w_t6, ← List.take_append_drop 24 ((((((words1.drop 24).drop 24).drop 24).drop 24).drop 24).drop 24), List.all_append, w_t7, w_t8]
  rfl
set_option maxRecDepth 65536 in
theorem w_rest : rest_1_c.before args0 about1 = true := by decide +kernel
set_option maxRecDepth 65536 in
theorem w_case : (Jvm.Cond.and given_1 narrow_1).before args0 about1 = true := by decide +kernel
set_option maxRecDepth 65536 in
theorem w_consts : constsHeld consts_1 about1 := Jvm.Lit.constsHeldB_iff.mp (by decide +kernel)
theorem w_applies : (headSpec (Jvm.Cond.code x code maxLocals ret :: tables_1) room_1).applies x e0.platform about1 = true :=
  (Spec.applies_iff w_frames).mpr ⟨w_running, w_runnable, w_alone, w_named, w_hears, w_ripe, w_room, w_tables⟩
theorem atStart : AtStart classFile x code maxLocals ret World_1 tables_1 room_1 Calls_1 rest_1 Pre_1 launch0 p0 e0 about1 theMethod args0 below0 :=
  ⟨lists_1, trivial, launch0.admits_env _ _ _, launch0.least_env, fairChoices_fair.cas, fairChoices_fair.clock, w_frames, w_args, w_heap, w_applies, ⟨w_consts, trivial⟩, w_rest, w_case⟩
end start1
theorem witness_1 : WitnessClaimed_1 := ⟨start1.p0, start1.e0, start1.about1, start1.theMethod, start1.args0, start1.below0, start1.atStart⟩
end Jvm.Pilot.@@N@@
