import JvmDerived
import JvmDerived.Pilot.@@N@@Statement
import JvmDerived.Pilot.@@N@@Code
set_option linter.unusedVariables false
set_option linter.unusedSimpArgs false
namespace Jvm.Pilot.@@N@@
open Jvm Jvm.ClassFile Sem Op Lib Jvm.Free Jvm.Stand Jvm.LawKit Jvm.RoadKit Bundle Jvm.Pilot.@@N@@.Jvm.D
abbrev own_r (a b c d : Nat) : Room := { frames := a, cells := b, slots := c, locals := d }
abbrev own_m0 : MethodName := ⟨"com/example/backplane/backplane/IdSyntax", "isIdCharacter", "(C)Z"⟩
abbrev own_m1 : MethodName := ⟨"com/example/backplane/backplane/IdSyntax", "isValid", "(Ljava/lang/String;I)Z"⟩
abbrev own_m2 : MethodName := ⟨"com/example/backplane/backplane/IdSyntaxIsValidPinLaw", "allowed", "(IC)Z"⟩
abbrev own_m3 : MethodName := ⟨"com/example/backplane/backplane/IdSyntaxIsValidPinLaw", "make", "(ICCC)Ljava/lang/String;"⟩
abbrev own_m4 : MethodName := ⟨"java/lang/Math", "max", "(II)I"⟩
abbrev own_m5 : MethodName := ⟨"java/lang/Math", "min", "(II)I"⟩
abbrev own_m6 : MethodName := ⟨"java/lang/String", "<init>", "([C)V"⟩
abbrev own_m7 : MethodName := ⟨"java/lang/String", "<init>", "([CIILjava/lang/Void;)V"⟩
abbrev own_m8 : MethodName := ⟨"java/lang/String", "charAt", "(I)C"⟩
abbrev own_m9 : MethodName := ⟨"java/lang/String", "checkIndex", "(II)V"⟩
abbrev own_m10 : MethodName := ⟨"java/lang/String", "coder", "()B"⟩
abbrev own_m11 : MethodName := ⟨"java/lang/String", "indexOf", "(I)I"⟩
abbrev own_m12 : MethodName := ⟨"java/lang/String", "indexOf", "(II)I"⟩
abbrev own_m13 : MethodName := ⟨"java/lang/String", "isEmpty", "()Z"⟩
abbrev own_m14 : MethodName := ⟨"java/lang/String", "isLatin1", "()Z"⟩
abbrev own_m15 : MethodName := ⟨"java/lang/String", "length", "()I"⟩
abbrev own_m16 : MethodName := ⟨"java/lang/StringLatin1", "canEncode", "(I)Z"⟩
abbrev own_m17 : MethodName := ⟨"java/lang/StringLatin1", "charAt", "([BI)C"⟩
abbrev own_m18 : MethodName := ⟨"java/lang/StringLatin1", "indexOf", "([BIII)I"⟩
abbrev own_m19 : MethodName := ⟨"java/lang/StringLatin1", "indexOfChar", "([BIII)I"⟩
abbrev own_m20 : MethodName := ⟨"java/lang/StringUTF16", "charAt", "([BI)C"⟩
abbrev own_m21 : MethodName := ⟨"java/lang/StringUTF16", "checkIndex", "(I[B)V"⟩
abbrev own_m22 : MethodName := ⟨"java/lang/StringUTF16", "coderFromArrayLen", "([BI)B"⟩
abbrev own_m23 : MethodName := ⟨"java/lang/StringUTF16", "compress", "([CII)[B"⟩
abbrev own_m24 : MethodName := ⟨"java/lang/StringUTF16", "compress", "([CI[BII)I"⟩
abbrev own_m25 : MethodName := ⟨"java/lang/StringUTF16", "getChar", "([BI)C"⟩
abbrev own_m26 : MethodName := ⟨"java/lang/StringUTF16", "length", "([B)I"⟩
abbrev own_m27 : MethodName := ⟨"java/lang/StringUTF16", "newBytesFor", "(I)[B"⟩
abbrev own_m28 : MethodName := ⟨"java/lang/StringUTF16", "newBytesLength", "(I)I"⟩
abbrev own_m29 : MethodName := ⟨"java/lang/StringUTF16", "putChar", "([BII)V"⟩
abbrev own_m30 : MethodName := ⟨"java/lang/StringUTF16", "toBytes", "([CII)[B"⟩
abbrev own_m31 : MethodName := ⟨"jdk/internal/util/Preconditions", "checkIndex", "(IILjava/util/function/BiFunction;)I"⟩
theorem own_w (i : Nat) {d : Jvm.Cond} (h : tables_1[i]? = some d) : d ∈ tables_1 := List.mem_of_getElem? h
def own_Go (p : Program) (e : Env) (below : List Frame) (A B : State) : Prop := ∀ t, Steps p.tables e below B t → Steps p.tables e below A t
abbrev own_top {p : Program} {e : Env} {below : List Frame} {A T : State} {g : JFrame} (_ : own_Go p e below A (T.setTop g)) : JFrame := g
section OwnKit
variable {p : Program} {l : Launch} {e : Env} {R : Room} {s : State} {m : MethodId} {args : Array Value} {below : List Frame} {meth : Method} {c : Code} {T : State} {locs : List Loc} {cells slots : Nat}
theorem retI (X : Stand p l e R s m args below meth c T locs cells slots) (hx : p.tables.exec = Jvm.exec) {pc : Nat} {Ls : Array Slot} {z : Int32} {rest : List Value} (hret : meth.sig.returnType = some .int) (hd : decode c.code pc = .ok (.ireturn, 1)) {fs : List Frame}
    (hl : ∀ (f : JFrame) (acts : List Action), f.method = m → f.locked = none → f.entered = [] → (doReturn e (T.setTop f) acts (some (.int z))).1 = T.setFrames fs) : Steps p.tables e below (T.setTop (mkF m pc Ls (.int z :: rest))) (T.setFrames fs) :=
  retOut X hx hret rfl (Or.inl ⟨rfl, Or.inl rfl, z, rfl⟩) hd hl
theorem own_retR (X : Stand p l e R s m args below meth c T locs cells slots) (hx : p.tables.exec = Jvm.exec) {pc : Nat} {Ls : Array Slot} {w : Value} {t : FieldType} {rest : List Value} (hret : meth.sig.returnType = some t) (ht : t.isReference = true) (hw : w.isRef = true) (hd : decode c.code pc = .ok (.areturn, 1)) {fs : List Frame}
    (hl : ∀ (f : JFrame) (acts : List Action), f.method = m → f.locked = none → f.entered = [] → (doReturn e (T.setTop f) acts (some w)).1 = T.setFrames fs) : Steps p.tables e below (T.setTop (mkF m pc Ls (w :: rest))) (T.setFrames fs) :=
  retOut X hx hret (by cases t <;> cases w <;> simp_all [FieldType.isReference, Value.isRef, narrow]) (Or.inr (Or.inr (Or.inr (Or.inr ⟨rfl, ht, hw⟩)))) hd hl
end OwnKit

theorem own_eqI {args : Array Value} {first s : State} {o : Option Outcome} {idx : List Nat} {t : Term} {k : Int32} (h : (Jvm.Cond.eq t (.int k)).value args first o s idx = some true) : t.eval args first o idx s = some (.int k) := by
  obtain ⟨x, y, h1, h2, h3, h4⟩ := cmp_v (Or.inl h)
  obtain rfl : y = .int k := by simpa [Term.eval] using h2.symm
  obtain ⟨z, rfl⟩ := h4
  simp [Cond.value, h1, h2] at h
  subst h
  exact h1

theorem own_selPriv {s : State} {args : Array Value} {n : Nat} {y : MethodName} (hy : y.cls ≠ "java/lang/invoke/MethodHandle" ∧ y.cls ≠ "java/lang/invoke/VarHandle") (hins : (Jvm.Cond.instantiable y.cls n).before args s = true) (hpriv : (Jvm.Cond.privateMethod y).before args s = true) (hinst : (Jvm.Cond.instanceMethod y).before args s = true) :
    (Jvm.Cond.selects y.cls y y).before args s = true := by
  obtain ⟨c, k, hc, hk, -, hniab, -, -⟩ := Cond.instantiable_spec hins
  have hni : k.isInterface = false := (Bool.or_eq_false_iff.mp hniab).1
  obtain ⟨mk, methM, hnamed, hmethM, -, -⟩ := Cond.instanceMethod_spec hinst
  have hfound : s.methodFound? y.cls y.name y.desc = some mk := State.methodFound?_of_named hnamed hy
  have hcls : mk.cls = c := Option.some.inj ((findClass_of_methodNamed hnamed).symm.trans hc)
  have hsel : selectMethod {} s.vm c mk = .method mk := selectMethod_private hmethM (Cond.privateMethod_at hpriv mk methM hnamed hmethM)
  simp only [Cond.before, Cond.holds, Cond.value, hc, hfound, hnamed, hsel, hcls, hk]
  simp; exact hni
theorem own_selPriv2 {s : State} {args : Array Value} {y z : MethodName} (hyz : z.cls = y.cls) (hy : y.cls ≠ "java/lang/invoke/MethodHandle" ∧ y.cls ≠ "java/lang/invoke/VarHandle") (h0 : (Jvm.Cond.selects y.cls z z).before args s = true) (hpriv : (Jvm.Cond.privateMethod y).before args s = true) (hinst : (Jvm.Cond.instanceMethod y).before args s = true) :
    (Jvm.Cond.selects y.cls y y).before args s = true := by
  obtain ⟨c, r, m, hc, -, hn, -, k, hk, hni⟩ := Cond.selects_spec h0
  obtain ⟨mk, methM, hnamed, hmethM, -, -⟩ := Cond.instanceMethod_spec hinst
  have hfound : s.methodFound? y.cls y.name y.desc = some mk := State.methodFound?_of_named hnamed hy
  have hcls : mk.cls = c := Option.some.inj ((findClass_of_methodNamed hnamed).symm.trans hc)
  have hm : m.cls = c := Option.some.inj ((findClass_of_methodNamed hn).symm.trans (by rw [hyz]; exact hc))
  have hsel : selectMethod {} s.vm c mk = .method mk := selectMethod_private hmethM (Cond.privateMethod_at hpriv mk methM hnamed hmethM)
  rw [hm] at hk
  simp only [Cond.before, Cond.holds, Cond.value, hc, hfound, hnamed, hsel, hcls, hk]
  simp; exact hni

theorem own_since (s : State) (n : Nat) : s.Since s.vm n := (State.WarmedH.refl s).since n
theorem own_fc {s : State} {vm' : Vm} {own : String} {k : ClassId} (h : s.vm.findClass own = some k) (w : s.Warmed39 vm') : (s.setVm vm').vm.findClass own = some k := by
  rw [show (s.setVm vm').vm = vm' from rfl, w.alike.findClass]; exact h
theorem own_wideMono {s t : State} {o : Outcome} {L : List Loc} {k n k' n' : Nat} (h : ReturnedEndW s o t L k n) (hk : k ≤ k') (hn : n ≤ n') : ReturnedEndW s o t L k' n' := ⟨h.1, h.2.1, h.2.2.1, h.2.2.2.mono hk hn⟩

theorem own_strAtoms (a0 : Array Value) (Z : State) (hw : ∀ d ∈ tables_1, d.before a0 Z = true) : ∀ a ∈ Bundle.stringAtoms, a.before a0 Z = true := by
  intro a ha
  simp only [Bundle.stringAtoms, List.mem_cons, List.not_mem_nil, or_false] at ha
  rcases ha with rfl | rfl | rfl | rfl | rfl | rfl | rfl
  · exact (hw _ (own_w 11 rfl))
  · exact (hw _ (own_w 10 rfl))
  · exact (hw _ (own_w 28 rfl))
  · exact (hw _ (own_w 38 rfl))
  · exact (hw _ (own_w 36 rfl))
  · exact (hw _ (own_w 149 rfl))
  · exact (hw _ (own_w 150 rfl))

def own_EL : List (String × Nat) := [("java/lang/String", 7)]
theorem own_ht0 : (∀ c ∈ "".toList, c.toNat < 256) ∧ "".toList.map (fun c => Value.int (Jvm.Lit.byteI c.toNat.toUInt16)) = [] := ⟨by first | decide +kernel | simp, by first | rfl | decide +kernel | simp⟩
theorem own_EW (a0 : Array Value) (Z : State) (hw : ∀ d ∈ tables_1, d.before a0 Z = true) : EW Z a0 own_EL := EW.cons (hw _ (own_w 148 rfl)) own_ht0.1 EW.nil
theorem own_ELsub : ∀ q ∈ own_EL, q ∈ consts_1 := by decide
section OwnHeld
variable {p : Program} {l : Launch} {e : Env} {R : Room} {s : State} {args : Array Value} {below : List Frame} {Z : State} {a0 : Array Value} {EL : List (String × Nat)} {h : Heap} {vm0 : Vm}
theorem own_backH {y : MethodName} {bytes : ByteArray} {maxL : Nat} {ret : Option FieldType} {rm : Room} {len W : Nat} {as' : Array Value} {SF : List Addr} {Q : Option Value → Heap → List Loc → Prop}
    (hM : MetFree l y (head1 [Jvm.Cond.code y bytes maxL ret] rm) (fun a U => a = as' ∧ Z.Warmed39 U.vm ∧ U.heap = h ∧ CHv Z EL U.vm h ∧ ∀ x ∈ SF, Safe Z EL U.vm h x) (fun _ _ _ _ _ => True) (fun _ U o U' => ∃ v L, o = .returned v ∧ Q v U'.heap L ∧ CHr Z EL U.vm U.heap U'.vm U'.heap ∧ ReturnedEndW U o U' L rm.cells rm.slots))
    (hZ : Z.Warmed39 vm0) (wc : (Jvm.Cond.code y bytes maxL ret).before a0 Z = true) (wz : (Jvm.Cond.initialized y.cls).before a0 Z = true) (hf : rm.frames + 1 ≤ R.frames) (hl : W + (maxL + 11) + rm.locals ≤ R.locals) (hEL : EW Z a0 EL) (H : CHv Z EL vm0 h) (hs : ∀ x ∈ SF, Safe Z EL vm0 h x) (hlt : ∀ x ∈ SF, x < h.size) :
    BackS l R p e below (s.setVm vm0) args y len W (fun A a => a = as' ∧ A.U.heap = h ∧ A.cells + rm.cells ≤ R.cells ∧ A.slots + rm.slots ≤ R.slots)
      (fun A _ v B => ∃ L, Q v B.U.heap L ∧ B.locs = A.locs ++ L ∧ B.cells = A.cells + rm.cells ∧ B.slots = A.slots + rm.slots ∧ CHr Z EL vm0 h B.U.vm B.U.heap) :=
  BackS.of_freeW (bytes := bytes) (maxL := maxL) (ret := ret) (E := fun _ first o t L k n => k = rm.cells ∧ n = rm.slots ∧ (∃ v, o = .returned v ∧ Q v t.heap L) ∧ CHr Z EL first.vm first.heap t.vm t.heap) hM hf hl
    (fun m meth c A a Y hp => have hU : Z.Warmed39 A.U.vm := wtrans (s := s.setVm vm0) hZ Y.warmed
      ⟨by show (Jvm.Cond.and _ .tt).before a A.U = true; rw [Cond.before_and, mv hU wc]; rfl, mv hU wc, mv hU wz, hp.2.2.1, hp.2.2.2⟩)
    (fun m meth c A a g mk Y hp => ⟨hp.1, wtrans (s := s.setVm vm0) hZ Y.warmed, hp.2.1, (CHv.at Y hZ hEL H).1, fun x hx => (CHv.at Y hZ hEL H).safe (hlt x hx) (hs x hx)⟩) (fun _ _ _ _ _ _ _ _ _ => trivial)
    (fun _ _ _ _ ⟨v, L, h1, h2, h3, h4⟩ => ⟨L, _, _, h4, rfl, rfl, ⟨v, h1, h2⟩, h3⟩)
    (fun m meth c A a g mk v t L k n Y hp _ _ ⟨e1, e2, ⟨v', e3, e4⟩, e5⟩ => by
      cases e3; subst e1 e2
      refine ⟨L, e4, rfl, rfl, rfl, (CHv.at Y hZ hEL H).trans ?_⟩
      rw [← hp.2.1]; exact e5)
end OwnHeld

theorem own_arvStart {Z : State} {args : Array Value} {t : Term} {a : Addr} {ty : FieldType} {z : Int32} {vs : List Value} {dv : Value} (hf : Fit Z) (ev : t.eval args Z none [] Z = some (.ref a)) (hA : (Jvm.Cond.arrayOf t ty).value args Z none Z [] = some true) (hL : (Term.length t).eval args Z none [] Z = some (.int z)) (hz : ¬ z < 0) (hl : z.toNatClampNeg = vs.length) (H : ∀ cl, Z.heap[a]? = some cl → HasL cl 0 vs) : ∃ k, Arv Z Z.heap a k ty z vs dv := by
  obtain ⟨cl, A⟩ := Arr.start ev hA
  have hat : Z.arrayAt? a = some cl := A.fin (Vm.Alike.refl _)
  by_cases hlt : cl.slots.size < 2 ^ 31
  · have e := (len_f ev hat hlt).symm.trans hL
    exact ⟨cl.cls, Arv.start hf A hlt (by simpa using e) hz hl (H cl A.1)⟩
  · simp [Term.eval, ev, hat, hlt] at hL

def own_SC (Z : State) (wC : Int32) : Prop := Sta Z Z.heap "java/lang/String" "COMPACT_STRINGS" "Z" (.int wC) ∧ ¬ wC = (0 : Int32)
def own_SU (Z : State) : Prop := Sta Z Z.heap "java/lang/StringUTF16" "$assertionsDisabled" "Z" (.int 1) ∧ Sta Z Z.heap "java/lang/StringUTF16" "HI_BYTE_SHIFT" "I" (.int 0) ∧ Sta Z Z.heap "java/lang/StringUTF16" "LO_BYTE_SHIFT" "I" (.int 8)
def own_SF (Z : State) (wF : Value) : Prop := Sta Z Z.heap "jdk/internal/util/Preconditions" "SIOOBE_FORMATTER" "Ljava/util/function/BiFunction;" wF ∧ wF.isRef = true

def own_lb (c : Int32) : Value := .int (nar .byte (c.toInt8.toInt32))
def own_hb (c : Int32) : Value := .int (nar .byte ((c >>> ((0 : Int32) &&& 31)).toInt8.toInt32))
def own_gb (c : Int32) : Value := .int (nar .byte ((c >>> ((8 : Int32) &&& 31)).toInt8.toInt32))
def own_ub : List Int32 → List Value
  | [] => []
  | c :: cs => own_hb c :: own_gb c :: own_ub cs
def own_len (cs : List Int32) : Int32 := Int32.ofNat cs.length
def own_len2 (cs : List Int32) : Int32 := Int32.ofNat (2 * cs.length)
def own_Lat : List Int32 → Prop
  | [] => True
  | c :: cs => (0 ≤ c.toInt ∧ c.toInt < 256) ∧ own_Lat cs
def own_Chr : List Int32 → Prop
  | [] => True
  | c :: cs => (0 ≤ c.toInt ∧ c.toInt < 65536) ∧ own_Chr cs
theorem own_ltOf {c : Int32} (h : ¬ (255 : Int32) < c) : c.toInt < 256 := by
  rw [Int32.lt_iff_toInt_lt, show (255 : Int32).toInt = 255 from rfl] at h
  omega
theorem own_fitAt {Z : State} {h : Heap} {a : Addr} {k : ClassId} {z c : Int32} {vs : List Value} {d : Value} (F : Arv Z h a k .char z vs d) (i : Nat) (hi : i < z.toNatClampNeg) (e : vs.getD i d = .int c) : 0 ≤ c.toInt ∧ c.toInt < 65536 := by
  obtain ⟨cl, -, -, S, -, -, G⟩ := F
  have q := G i (by rw [S]; exact hi)
  rw [e] at q
  have r := rng_char q
  rw [Int32.lt_iff_toInt_lt, Int32.lt_iff_toInt_lt, show (0 : Int32).toInt = 0 from rfl, show (65535 : Int32).toInt = 65535 from rfl] at r
  omega
def own_Str (Z : State) (h : Heap) (a vb : Addr) (kb : ClassId) (cs : List Int32) : Prop :=
  Exa Z h a "java/lang/String" ∧ Fld Z h a "java/lang/String" "value" "[B" (.ref vb) ∧
    ((Fld Z h a "java/lang/String" "coder" "B" (.int 0) ∧ own_Lat cs ∧ Arv Z h vb kb .byte (own_len cs) (cs.map own_lb) (.int 0)) ∨
     (Fld Z h a "java/lang/String" "coder" "B" (.int 1) ∧ own_Chr cs ∧ Arv Z h vb kb .byte (own_len2 cs) (own_ub cs) (.int 0)))
theorem own_Str.ext {Z : State} {h h' : Heap} {a vb : Addr} {kb : ClassId} {cs : List Int32} (F : own_Str Z h a vb kb cs) (E : Ext h h') : own_Str Z h' a vb kb cs := by
  obtain ⟨h1, h2, ⟨h3, h4, h5⟩ | ⟨h3, h4, h5⟩⟩ := F
  · exact ⟨h1.ext E, h2.ext E, Or.inl ⟨h3.ext E, h4, h5.ext E⟩⟩
  · exact ⟨h1.ext E, h2.ext E, Or.inr ⟨h3.ext E, h4, h5.ext E⟩⟩
theorem own_Str.keep {Z : State} {h h' : Heap} {a vb : Addr} {kb : ClassId} {cs : List Int32} {ws : List Addr} (F : own_Str Z h a vb kb cs) (K : Keep h h' ws) (n1 : a ∉ ws) (n2 : vb ∉ ws) : own_Str Z h' a vb kb cs := by
  obtain ⟨h1, h2, ⟨h3, h4, h5⟩ | ⟨h3, h4, h5⟩⟩ := F
  · exact ⟨h1.keep K, h2.keep K n1, Or.inl ⟨h3.keep K n1, h4, h5.keep K n2⟩⟩
  · exact ⟨h1.keep K, h2.keep K n1, Or.inr ⟨h3.keep K n1, h4, h5.keep K n2⟩⟩
theorem own_Str.lt0 {Z : State} {h : Heap} {a vb : Addr} {kb : ClassId} {cs : List Int32} (F : own_Str Z h a vb kb cs) : a < h.size := F.1.lt
theorem own_Str.lt1 {Z : State} {h : Heap} {a vb : Addr} {kb : ClassId} {cs : List Int32} (F : own_Str Z h a vb kb cs) : vb < h.size := by
  obtain ⟨h1, h2, ⟨h3, h4, h5⟩ | ⟨h3, h4, h5⟩⟩ := F
  · exact h5.lt
  · exact h5.lt
def own_gc (b0 b1 : Int32) : Int32 := nar .char ((((b0 &&& (255 : Int32)) <<< ((0 : Int32) &&& 31)) ||| ((b1 &&& (255 : Int32)) <<< ((8 : Int32) &&& 31))).toUInt32.toUInt16.toUInt32.toInt32)
def own_lc (u : Int32) : Int32 := nar .char ((u &&& (255 : Int32)).toUInt32.toUInt16.toUInt32.toInt32)
theorem own_narByte (x : Int32) : ((nar .byte x).toInt - x.toInt) % 256 = 0 := by
  have h := (c_i2b x).1
  show (x.toInt8.toInt32.toInt - x.toInt) % 256 = 0
  exact h
theorem own_narChar (x : Int32) (h0 : 0 ≤ x.toInt) (h1 : x.toInt < 65536) : nar .char x = x := by
  show x.toUInt32.toUInt16.toUInt32.toInt32 = x
  have h := c_i2c x
  exact Int32.toInt_inj.mp (by omega)
theorem own_i2c (x : Int32) (h0 : 0 ≤ x.toInt) (h1 : x.toInt < 65536) : x.toUInt32.toUInt16.toUInt32.toInt32 = x := own_narChar x h0 h1
theorem own_latget (c : Int32) (h : 0 ≤ c.toInt ∧ c.toInt < 256) : own_lc (nar .byte (c.toInt8.toInt32)) = c := by
  have h1 := own_narByte (c.toInt8.toInt32)
  have h2 := (c_i2b c).1
  have h3 := c_mask (nar .byte (c.toInt8.toInt32)) 255 8 (by decide) (by decide)
  have e : (nar .byte (c.toInt8.toInt32)) &&& (255 : Int32) = c := Int32.toInt_inj.mp (by omega)
  unfold own_lc
  rw [e, own_i2c c h.1 (by omega), own_narChar c h.1 (by omega)]
theorem own_utfget (c : Int32) (h : 0 ≤ c.toInt ∧ c.toInt < 65536) : own_gc (nar .byte ((c >>> ((0 : Int32) &&& 31)).toInt8.toInt32)) (nar .byte ((c >>> ((8 : Int32) &&& 31)).toInt8.toInt32)) = c := by
  have s0 := c_ishr c 0 0 (by decide)
  have s8 := c_ishr c 8 8 (by decide)
  have a1 := own_narByte ((c >>> ((0 : Int32) &&& 31)).toInt8.toInt32)
  have a2 := (c_i2b (c >>> ((0 : Int32) &&& 31))).1
  have b1 := own_narByte ((c >>> ((8 : Int32) &&& 31)).toInt8.toInt32)
  have b2 := (c_i2b (c >>> ((8 : Int32) &&& 31))).1
  unfold own_gc
  generalize nar .byte ((c >>> ((0 : Int32) &&& 31)).toInt8.toInt32) = x at *
  generalize nar .byte ((c >>> ((8 : Int32) &&& 31)).toInt8.toInt32) = y at *
  have m1 := c_mask x 255 8 (by decide) (by decide)
  have m2 := c_mask y 255 8 (by decide) (by decide)
  have t1 := c_ishl (x &&& 255) 0 0 (by decide)
  have t2 := c_ishl (y &&& 255) 8 8 (by decide)
  generalize (c >>> ((0 : Int32) &&& 31)).toInt8.toInt32 = u at *
  generalize (c >>> ((8 : Int32) &&& 31)).toInt8.toInt32 = v at *
  have r1 := rng32 ((x &&& 255) <<< ((0 : Int32) &&& 31))
  have r2 := rng32 ((y &&& 255) <<< ((8 : Int32) &&& 31))
  have r3 := rng32 (((x &&& 255) <<< ((0 : Int32) &&& 31)) ||| ((y &&& 255) <<< ((8 : Int32) &&& 31)))
  have o := c_or' ((x &&& 255) <<< ((0 : Int32) &&& 31)) ((y &&& 255) <<< ((8 : Int32) &&& 31)) 8 (by decide) 256 (by decide) (by omega) (by omega) (by omega)
  have e : ((x &&& 255) <<< ((0 : Int32) &&& 31)) ||| ((y &&& 255) <<< ((8 : Int32) &&& 31)) = c := Int32.toInt_inj.mp (by omega)
  rw [e, own_i2c c h.1 h.2, own_narChar c h.1 h.2]

theorem own_narChar2 (b0 b1 : Int32) : nar .char (own_gc b0 b1) = own_gc b0 b1 := by
  have h := c_i2c ((((b0 &&& (255 : Int32)) <<< ((0 : Int32) &&& 31)) ||| ((b1 &&& (255 : Int32)) <<< ((8 : Int32) &&& 31))).toUInt32.toUInt16.toUInt32.toInt32)
  exact own_narChar _ h.2.1 h.2.2

theorem own_lenI (cs : List Int32) (h : cs.length < 1000) : (own_len cs).toInt = cs.length := by
  unfold own_len
  exact Int32.toInt_ofNat_small (by omega)
theorem own_lenI2 (cs : List Int32) (h : cs.length < 1000) : (own_len2 cs).toInt = 2 * cs.length := by
  unfold own_len2
  rw [Int32.toInt_ofNat_small (by omega)]
  omega
theorem own_lenL (cs : List Int32) : (own_len cs) >>> ((0 : Int32) &&& 31) = own_len cs := by
  have e := c_ishr (own_len cs) 0 0 (by decide)
  exact Int32.toInt_inj.mp (by omega)
theorem own_lenU (cs : List Int32) (h : cs.length < 1000) : (own_len2 cs) >>> ((1 : Int32) &&& 31) = own_len cs := by
  have e := c_ishr (own_len2 cs) 1 1 (by decide)
  have a := own_lenI cs h
  have b := own_lenI2 cs h
  exact Int32.toInt_inj.mp (by omega)
theorem own_ix {p : Int32} {cs : List Int32} (h : cs.length < 1000) (h1 : ¬ p < (0 : Int32)) (h2 : p < own_len cs) : 0 ≤ p.toInt ∧ p.toInt < cs.length ∧ p.toNatClampNeg = p.toInt.toNat := by
  rw [Int32.lt_iff_toInt_lt, own_lenI cs h] at h2
  rw [Int32.lt_iff_toInt_lt, show (0 : Int32).toInt = 0 from rfl] at h1
  exact ⟨by omega, h2, rfl⟩
theorem own_ixn {p : Int32} {cs : List Int32} (h : cs.length < 1000) (h1 : ¬ p < (0 : Int32)) (h2 : p < own_len cs) : p.toNatClampNeg < cs.length := by
  obtain ⟨a, b, e⟩ := own_ix h h1 h2
  rw [e]; omega
theorem own_getLat {p c : Int32} {cs : List Int32} (h : cs.length < 1000) (h1 : ¬ p < (0 : Int32)) (h2 : p < own_len cs) (hc : cs.getD p.toNatClampNeg 0 = c) : (cs.map own_lb).getD p.toNatClampNeg (.int 0) = .int (nar .byte (c.toInt8.toInt32)) := by
  have k := own_ixn h h1 h2
  subst hc
  simp [own_lb, k]
theorem own_ubAt : ∀ (cs : List Int32) (k : Nat), k < cs.length → (own_ub cs).getD (2 * k) (.int 0) = own_hb (cs.getD k 0) ∧ (own_ub cs).getD (2 * k + 1) (.int 0) = own_gb (cs.getD k 0)
  | [], k, h => absurd h (Nat.not_lt_zero k)
  | c :: cs, 0, _ => ⟨rfl, rfl⟩
  | c :: cs, k + 1, h => by
    have ih := own_ubAt cs k (Nat.lt_of_succ_lt_succ h)
    rw [show 2 * (k + 1) = 2 * k + 1 + 1 from by omega]
    exact ⟨ih.1, ih.2⟩
theorem own_LatAt : ∀ (cs : List Int32) (k : Nat), own_Lat cs → k < cs.length → 0 ≤ (cs.getD k 0).toInt ∧ (cs.getD k 0).toInt < 256
  | [], k, _, q => absurd q (Nat.not_lt_zero k)
  | c :: cs, 0, h, _ => h.1
  | c :: cs, k + 1, h, q => own_LatAt cs k h.2 (Nat.lt_of_succ_lt_succ q)
theorem own_ChrAt : ∀ (cs : List Int32) (k : Nat), own_Chr cs → k < cs.length → 0 ≤ (cs.getD k 0).toInt ∧ (cs.getD k 0).toInt < 65536
  | [], k, _, q => absurd q (Nat.not_lt_zero k)
  | c :: cs, 0, h, _ => h.1
  | c :: cs, k + 1, h, q => own_ChrAt cs k h.2 (Nat.lt_of_succ_lt_succ q)
theorem own_J {p : Int32} {cs : List Int32} (h : cs.length < 1000) (h1 : ¬ p < (0 : Int32)) (h2 : p < own_len cs) :
    (p <<< ((1 : Int32) &&& 31)).toInt = 2 * p.toInt ∧ ((p <<< ((1 : Int32) &&& 31)) + (1 : Int32)).toInt = 2 * p.toInt + 1 := by
  obtain ⟨a, b, e⟩ := own_ix h h1 h2
  have s := c_ishl p 1 1 (by decide)
  have r := rng32 (p <<< ((1 : Int32) &&& 31))
  have t := c_iadd (p <<< ((1 : Int32) &&& 31)) 1
  have r2 := rng32 ((p <<< ((1 : Int32) &&& 31)) + 1)
  rw [show (1 : Int32).toInt = 1 from rfl] at t
  exact ⟨by omega, by omega⟩
theorem own_Jb {p : Int32} {cs : List Int32} (h : cs.length < 1000) (h1 : ¬ p < (0 : Int32)) (h2 : p < own_len cs) :
    (¬ (p <<< ((1 : Int32) &&& 31)) < (0 : Int32)) ∧ ((p <<< ((1 : Int32) &&& 31)) < own_len2 cs) ∧ (¬ ((p <<< ((1 : Int32) &&& 31)) + (1 : Int32)) < (0 : Int32)) ∧ (((p <<< ((1 : Int32) &&& 31)) + (1 : Int32)) < own_len2 cs) ∧
      (p <<< ((1 : Int32) &&& 31)).toNatClampNeg = 2 * p.toNatClampNeg ∧ ((p <<< ((1 : Int32) &&& 31)) + (1 : Int32)).toNatClampNeg = 2 * p.toNatClampNeg + 1 ∧ p < ((own_len2 cs) >>> ((1 : Int32) &&& 31)) := by
  have j := own_J h h1 h2
  have b2 := own_lenI2 cs h
  obtain ⟨a, b, e⟩ := own_ix h h1 h2
  have e0 : (0 : Int32).toInt = 0 := rfl
  refine ⟨?_, ?_, ?_, ?_, ?_, ?_, ?_⟩
  · rw [Int32.lt_iff_toInt_lt, e0]; omega
  · rw [Int32.lt_iff_toInt_lt]; omega
  · rw [Int32.lt_iff_toInt_lt, e0]; omega
  · rw [Int32.lt_iff_toInt_lt]; omega
  · simp only [Int32.toNatClampNeg]; omega
  · simp only [Int32.toNatClampNeg]; omega
  · rw [own_lenU cs h]; exact h2
theorem own_getU {p c : Int32} {cs : List Int32} (h : cs.length < 1000) (h1 : ¬ p < (0 : Int32)) (h2 : p < own_len cs) (hc : cs.getD p.toNatClampNeg 0 = c) : (own_ub cs).getD (2 * p.toNatClampNeg) (.int 0) = .int (nar .byte ((c >>> ((0 : Int32) &&& 31)).toInt8.toInt32)) ∧ (own_ub cs).getD (2 * p.toNatClampNeg + 1) (.int 0) = .int (nar .byte ((c >>> ((8 : Int32) &&& 31)).toInt8.toInt32)) := by
  have q := own_ubAt cs p.toNatClampNeg (own_ixn h h1 h2)
  rw [hc] at q
  exact q

theorem d3_0 : decode jdk_42_method_149_code 0 = .ok (.aload_n 0, 1) := by decide +kernel
theorem d3_1 : decode jdk_42_method_149_code 1 = .ok (.invokespecial 1, 3) := by decide +kernel
theorem d3_4 : decode jdk_42_method_149_code 4 = .ok (.iload_n 3, 1) := by decide +kernel
theorem d3_5 : decode jdk_42_method_149_code 5 = .ok (.ifCond .ne 22, 3) := by decide +kernel
theorem d3_8 : decode jdk_42_method_149_code 8 = .ok (.aload_n 0, 1) := by decide +kernel
theorem d3_9 : decode jdk_42_method_149_code 9 = .ok (.ldc 7, 2) := by decide +kernel
theorem d3_11 : decode jdk_42_method_149_code 11 = .ok (.getfield 9, 3) := by decide +kernel
theorem d3_14 : decode jdk_42_method_149_code 14 = .ok (.putfield 9, 3) := by decide +kernel
theorem d3_17 : decode jdk_42_method_149_code 17 = .ok (.aload_n 0, 1) := by decide +kernel
theorem d3_18 : decode jdk_42_method_149_code 18 = .ok (.ldc 7, 2) := by decide +kernel
theorem d3_20 : decode jdk_42_method_149_code 20 = .ok (.getfield 15, 3) := by decide +kernel
theorem d3_23 : decode jdk_42_method_149_code 23 = .ok (.putfield 15, 3) := by decide +kernel
theorem d3_26 : decode jdk_42_method_149_code 26 = .ok (.return_, 1) := by decide +kernel
theorem pn_3 : plainName "java/lang/String" = true := by first | (simp [plainName, overriddenIn]; done) | decide +kernel
theorem ef_init4_0 (m : MethodId) (x0 : Addr) (x1 : Addr) : entryFrame m #[(.ref x0), (.ref x1), (.int 0), (.int 0), .null] 6 = mkF m 0 #[.val (.ref x0), .val (.ref x1), .val (.int 0), .val (.int 0), .val .null, .unset] [] := by first | (simp [entryFrame, mkF, argsToLocals, Value.category]; done) | rfl
def Qinit4_0 (Z : State) (a1 : Addr) (a2 : Addr) (h0 : Heap) (n0 : Nat) (v : Option Value) (h : Heap) (L : List Loc) : Prop := ∃ vb : Addr, ∃ kb : ClassId, v = none ∧ Fr n0 L ∧ Keep h0 h [a1] ∧ own_Str Z h a1 vb kb []
set_option maxRecDepth 65536 in
set_option maxHeartbeats 40000000 in
theorem rminit4_0 (l : Launch) (Z : State) (a0 : Array Value) (hw : ∀ d ∈ tables_1, d.before a0 Z = true) (ws : List Jvm.Cond) (a1 : Addr) (a2 : Addr) (h0 : Heap) (n0 : Nat) (Z0 : n0 ≤ h0.size) (O0 : Old Z n0 h0) (pE1 : Exa Z h0 a1 "java/lang/String") (pF1 : Fld Z h0 a1 "java/lang/String" "value" "[B" .null) (pF2 : Fld Z h0 a1 "java/lang/String" "coder" "B" (.int 0)) (pg1 : n0 ≤ a1) :
    MetFree l own_m7 (head1 (Jvm.Cond.code own_m7 jdk_42_method_149_code 6 none :: ws) (own_r 1 2 4 12)) (fun a U => a = #[(.ref a1), (.ref a2), (.int 0), (.int 0), .null] ∧ Z.Warmed39 U.vm ∧ U.heap = h0 ∧ CHv Z own_EL U.vm h0 ∧ ∀ x ∈ ([a1] : List Addr), Safe Z own_EL U.vm h0 x) (fun _ _ _ _ _ => True) (fun _ U o U' => ∃ v L, o = .returned v ∧ Qinit4_0 Z a1 a2 h0 n0 v U'.heap L ∧ CHr Z own_EL U.vm U.heap U'.vm U'.heap ∧ ReturnedEndW U o U' L (own_r 1 2 4 12).cells (own_r 1 2 4 12).slots) := by
  refine MetFree.of_bodySF (plainFor_of_name pn_3) hisR ?_
  intro p e s m args below meth c s₁ Bd hml0 hP hK
  obtain ⟨rfl, hZ, hh, hCH, hSF⟩ := hP
  have hx := Bd.exec
  have hby := Bd.bytes
  have hml : c.maxLocals = 6 := hml0
  have hown0 := findClass_of_methodNamed Bd.named
  have hown : s.vm.findClass "java/lang/String" = some m.cls := hown0
  have hnm := (name_of_methodNamed Bd.named Bd.method).1
  have X0 : Stand p l e (own_r 1 2 4 12) s m #[(.ref a1), (.ref a2), (.int 0), (.int 0), .null] below meth c s₁ [] 0 0 := Stand.of_body Bd
  have e0 : s₁.heap = h0 := by rw [← hh, Bd.state]; rfl
  have N0 := Fr.nil n0
  obtain ⟨S0, hS0⟩ : ∃ z, z = s₁.setTop (entryFrame m #[(.ref a1), (.ref a2), (.int 0), (.int 0), .null] 6) := ⟨_, rfl⟩
  have pre0 : own_Go p e below S0 (s₁.setTop (mkF m 0 #[.val (.ref a1), .val (.ref a2), .val (.int 0), .val (.int 0), .val .null, .unset] [])) := fun t k => by rw [hS0]; exact castTop (ef_init4_0 m a1 a2) k
  have fin : ∀ t, Steps p.tables e below S0 t → Steps p.tables e below (s₁.setTop (entryFrame m #[(.ref a1), (.ref a2), (.int 0), (.int 0), .null] 6)) t := fun t k => by rw [hS0] at k; exact k
  have ch0 : CHr Z own_EL s.vm h0 s.vm h0 := CHr.refl hCH
  have sf0 : Safe Z own_EL s.vm h0 a1 := hSF _ (List.mem_of_getElem? (i := 0) rfl)
  have kc0 : Keep h0 h0 [a1] := Keep.refl _ _
  have pre1 : own_Go p e below S0 (s₁.setTop (mkF m 1 #[.val (.ref a1), .val (.ref a2), .val (.int 0), .val (.int 0), .val .null, .unset] [(.ref a1)])) := by
    intro t kt
    refine pre0 t ?_
    refine XS.aloadN X0.here hx rfl (hb hby d3_0) rfl rfl ?_
    exact kt
  obtain ⟨T2, X2, e2, st2⟩ := initO X0 hx hZ hown (hw _ (own_w 20 rfl)) (hw _ (own_w 21 rfl)) (hw _ (own_w 22 rfl)) e0 (g := (mkF m 1 #[.val (.ref a1), .val (.ref a2), .val (.int 0), .val (.int 0), .val .null, .unset] [(.ref a1)])) rfl (by rw [hml]; rfl) rfl (hb hby d3_1) (by decide) (W := 0) (by show 2 * 0 + _ ≤ _; exact Nat.le_of_eq rfl) (by decide)
  have pre3 : own_Go p e below S0 (T2.setTop (mkF m 9 #[.val (.ref a1), .val (.ref a2), .val (.int 0), .val (.int 0), .val .null, .unset] [(.ref a1)])) := by
    intro t kt
    refine pre1 t ?_
    refine st2 _ ?_
    refine XS.iloadN X2.here hx rfl (hb hby d3_4) rfl ?_
    refine XS.ifNo X2.here hx rfl (hb hby d3_5) rfl ((if0 _ _).trans (teq (by decide : (0 : Int32) = (0 : Int32))).2) ?_
    refine XS.aloadN X2.here hx rfl (hb hby d3_8) rfl rfl ?_
    exact kt
  obtain ⟨b4, T4, h4, k4, v4, kv4, X4, e4, E4, hS4, hk4, hZ, hown, xE4, xC4, xF4, xV4, -, -, cr4, L4, hne4, st4⟩ := ldcCH (s := s) (vm0 := s.vm) X2 hx hZ hown (hw _ (own_w 148 rfl)) (own_strAtoms a0 Z hw) e2 (own_since s 0) (Nat.zero_le _) (own_EW a0 Z hw) (List.mem_of_getElem? (i := 0) rfl) ch0.1 (vs := []) (z := 0) own_ht0 (by decide) (by decide) (g := (mkF m 9 #[.val (.ref a1), .val (.ref a2), .val (.int 0), .val (.int 0), .val .null, .unset] [(.ref a1)])) rfl (hb hby d3_9) (n := 0) (by decide +kernel) (by decide) (by decide) (by decide)
  have zs5 : n0 ≤ h4.size := Nat.le_trans Z0 E4.1
  have kc6 : Keep h0 h4 [a1] := kc0.ext E4
  have ch7 : CHr Z own_EL s.vm h0 T4.vm h4 := ch0.trans (cr4)
  have sf8 : Safe Z own_EL T4.vm h4 a1 := cr4.safe pE1.lt sf0
  have ne9 : a1 ≠ b4 := (hne4 _ sf8).1
  have ne10 : a1 ≠ v4 := (hne4 _ sf8).2
  have pre11 : own_Go p e below S0 (T4.setTop (mkF m 11 #[.val (.ref a1), .val (.ref a2), .val (.int 0), .val (.int 0), .val .null, .unset] [(.ref b4), (.ref a1)])) := by
    intro t kt
    refine pre3 t ?_
    refine st4 _ ?_
    exact kt
  obtain ⟨T12, X12, e12, st12⟩ := getF X4 hx hZ hown (host := "") (Or.inl (hw _ (own_w 37 rfl))) Via.refl e4 xF4 (g := (mkF m 11 #[.val (.ref a1), .val (.ref a2), .val (.int 0), .val (.int 0), .val .null, .unset] [(.ref b4), (.ref a1)])) rfl rfl (hb hby d3_11)
  have pre13 : own_Go p e below S0 (T12.setTop (mkF m 14 #[.val (.ref a1), .val (.ref a2), .val (.int 0), .val (.int 0), .val .null, .unset] [(.ref v4), (.ref a1)])) := by
    intro t kt
    refine pre11 t ?_
    refine st12 _ ?_
    exact kt
  have f14 : Fld Z h4 a1 "java/lang/String" "value" "[B" .null := (pF1.ext E4)
  have f15 : Exa Z h4 a1 "java/lang/String" := (pE1.ext E4)
  obtain ⟨T16, h16, X16, e16, W16, st16⟩ := putF X12 hx hZ hown (host := "") (Or.inl (hw _ (own_w 37 rfl))) Via.refl e12 f14 f15 (Or.inr ⟨(hw _ (own_w 38 rfl)), rfl, hnm⟩) (hw _ (own_w 10 rfl)) (ty := (.array .byte)) (by decide) rfl rfl (g := (mkF m 14 #[.val (.ref a1), .val (.ref a2), .val (.int 0), .val (.int 0), .val .null, .unset] [(.ref v4), (.ref a1)])) rfl rfl (hb hby d3_14)
  have N16 := Fr.snoc X16 N0 pg1
  have zs17 : n0 ≤ h16.size := Nat.le_trans zs5 (Keep.of_wr W16).1
  have kc18 : Keep h0 h16 [a1] := kc6.wr W16 (Or.inl (List.mem_of_getElem? (i := 0) rfl))
  have hk19 : _ ≤ h16.size := Nat.le_trans hk4 (Keep.of_wr W16).1
  have ch20 : CHr Z own_EL s.vm h0 T4.vm h16 := ch7.trans (CHr.wr W16 sf8 ch7.1)
  have sf21 : Safe Z own_EL T4.vm h16 a1 := Safe.wr W16 sf8 ch7.1 sf8
  have fw16 : Fld Z h16 a1 "java/lang/String" "value" "[B" (.ref v4) := f14.same W16
  have pre22 : own_Go p e below S0 (T16.setTop (mkF m 18 #[.val (.ref a1), .val (.ref a2), .val (.int 0), .val (.int 0), .val .null, .unset] [(.ref a1)])) := by
    intro t kt
    refine pre13 t ?_
    refine st16 _ ?_
    refine XS.aloadN X16.here hx rfl (hb hby d3_17) rfl rfl ?_
    exact kt
  have pre23 : own_Go p e below S0 (T16.setTop (mkF m 20 #[.val (.ref a1), .val (.ref a2), .val (.int 0), .val (.int 0), .val .null, .unset] [(.ref b4), (.ref a1)])) := by
    intro t kt
    refine pre22 t ?_
    refine ldcAgain (s := s) (vm0 := T4.vm) X16 hx hZ hown (hw _ (own_w 148 rfl)) L4 (g := (mkF m 18 #[.val (.ref a1), .val (.ref a2), .val (.int 0), .val (.int 0), .val .null, .unset] [(.ref a1)])) rfl (hb hby d3_18) _ ?_
    exact kt
  have f24 : Fld Z h16 b4 "java/lang/String" "coder" "B" (.int 0) := (xC4.other W16 (Or.inl (Ne.symm ne9)))
  obtain ⟨T25, X25, e25, st25⟩ := getF X16 hx hZ hown (host := "") (Or.inl (hw _ (own_w 35 rfl))) Via.refl e16 f24 (g := (mkF m 20 #[.val (.ref a1), .val (.ref a2), .val (.int 0), .val (.int 0), .val .null, .unset] [(.ref b4), (.ref a1)])) rfl rfl (hb hby d3_20)
  have pre26 : own_Go p e below S0 (T25.setTop (mkF m 23 #[.val (.ref a1), .val (.ref a2), .val (.int 0), .val (.int 0), .val .null, .unset] [(.int 0), (.ref a1)])) := by
    intro t kt
    refine pre23 t ?_
    refine st25 _ ?_
    exact kt
  have f27 : Fld Z h16 a1 "java/lang/String" "coder" "B" (.int 0) := ((pF2.ext E4).other W16 (Or.inr (slot_ne (Or.inr (hw _ (own_w 36 rfl))) (Or.inr (hw _ (own_w 38 rfl))) (by decide) (t := .byte) (t' := (.array .byte)) (by decide) (by decide))))
  have f28 : Exa Z h16 a1 "java/lang/String" := (f15.wr W16)
  obtain ⟨T29, h29, X29, e29, W29, st29⟩ := putFN X25 hx hZ hown (hw _ (own_w 35 rfl)) Via.refl e25 f27 f28 (Or.inr ⟨(hw _ (own_w 36 rfl)), rfl, hnm⟩) (hw _ (own_w 10 rfl)) (ty := .byte) (v' := (.int 0)) (by decide) rfl (by decide) (g := (mkF m 23 #[.val (.ref a1), .val (.ref a2), .val (.int 0), .val (.int 0), .val .null, .unset] [(.int 0), (.ref a1)])) rfl rfl (hb hby d3_23)
  have N29 := Fr.snoc X29 N16 pg1
  have zs30 : n0 ≤ h29.size := Nat.le_trans zs17 (Keep.of_wr W29).1
  have kc31 : Keep h0 h29 [a1] := kc18.wr W29 (Or.inl (List.mem_of_getElem? (i := 0) rfl))
  have hk32 : _ ≤ h29.size := Nat.le_trans hk19 (Keep.of_wr W29).1
  have ch33 : CHr Z own_EL s.vm h0 T4.vm h29 := ch20.trans (CHr.wr W29 sf21 ch20.1)
  have sf34 : Safe Z own_EL T4.vm h29 a1 := Safe.wr W29 sf21 ch20.1 sf21
  have fw29 : Fld Z h29 a1 "java/lang/String" "coder" "B" (.int 0) := f27.same W29
  have pre35 : own_Go p e below S0 (T29.setTop (mkF m 26 #[.val (.ref a1), .val (.ref a2), .val (.int 0), .val (.int 0), .val .null, .unset] [])) := by
    intro t kt
    refine pre26 t ?_
    refine st29 _ ?_
    exact kt
  have f36 : Exa Z h29 a1 "java/lang/String" := (f28.wr W29)
  have f37 : Fld Z h29 a1 "java/lang/String" "value" "[B" (.ref v4) := (fw16.other W29 (Or.inr (slot_ne (Or.inr (hw _ (own_w 38 rfl))) (Or.inr (hw _ (own_w 36 rfl))) (by decide) (t := (.array .byte)) (t' := .byte) (by decide) (by decide))))
  have f38 : Arv Z h29 v4 kv4 .byte (0 : Int32) [] (.int 0) := ((xV4.other W16 (Ne.symm ne10)).other W29 (Ne.symm ne10))
  obtain ⟨fs, hr, hrun, hended, hRW⟩ := Stand.leaveW (s := s) (vm₁ := T4.vm) X29 hS4 (by rw [e29]; exact hk32) (v := none) (fun _ => rfl)
  refine ⟨_, _, fin _ (pre35 _ ?_), hrun, hended, _, _, rfl, ?_, (by rw [hh]; show CHr Z own_EL s.vm h0 T29.vm T29.heap; rw [e29]; exact ch33.trans (CHv.at (s := s) (vm0 := T4.vm) X29 hZ (own_EW a0 Z hw) ch33.1)), own_wideMono hRW (by decide) (by decide)⟩
  · exact X29.returnOut hx Bd.returns (hb hby d3_26) hr
  · show Qinit4_0 Z a1 a2 h0 n0 _ T29.heap _
    rw [e29]
    exact ⟨v4, kv4, rfl, N29, kc31, ⟨f36, f37, Or.inl ⟨fw29, trivial, f38⟩⟩⟩

theorem d2_0 : decode jdk_42_method_3_code 0 = .ok (.aload_n 0, 1) := by decide +kernel
theorem d2_1 : decode jdk_42_method_3_code 1 = .ok (.aload_n 1, 1) := by decide +kernel
theorem d2_2 : decode jdk_42_method_3_code 2 = .ok (.iconst 0, 1) := by decide +kernel
theorem d2_3 : decode jdk_42_method_3_code 3 = .ok (.aload_n 1, 1) := by decide +kernel
theorem d2_4 : decode jdk_42_method_3_code 4 = .ok (.arraylength, 1) := by decide +kernel
theorem d2_5 : decode jdk_42_method_3_code 5 = .ok (.aconst_null, 1) := by decide +kernel
theorem d2_6 : decode jdk_42_method_3_code 6 = .ok (.invokespecial 27, 3) := by decide +kernel
theorem d2_9 : decode jdk_42_method_3_code 9 = .ok (.return_, 1) := by decide +kernel
theorem pn_2 : plainName "java/lang/String" = true := by first | (simp [plainName, overriddenIn]; done) | decide +kernel
theorem pd_0 : parseMethodDescriptor "([CIILjava/lang/Void;)V" = some ⟨[(.array .char), .int, .int, (.object "java/lang/Void")], none⟩ := by decide +kernel
theorem ef_init1_0 (m : MethodId) (x0 : Addr) (x1 : Addr) : entryFrame m #[(.ref x0), (.ref x1)] 2 = mkF m 0 #[.val (.ref x0), .val (.ref x1)] [] := by first | (simp [entryFrame, mkF, argsToLocals, Value.category]; done) | rfl
def Qinit1_0 (Z : State) (a1 : Addr) (a2 : Addr) (kc : ClassId) (h0 : Heap) (n0 : Nat) (v : Option Value) (h : Heap) (L : List Loc) : Prop := ∃ vb : Addr, ∃ kb : ClassId, v = none ∧ Fr n0 L ∧ Keep h0 h [a1] ∧ own_Str Z h a1 vb kb []
set_option maxRecDepth 65536 in
set_option maxHeartbeats 40000000 in
theorem rminit1_0 (l : Launch) (Z : State) (a0 : Array Value) (hw : ∀ d ∈ tables_1, d.before a0 Z = true) (ws : List Jvm.Cond) (a1 : Addr) (a2 : Addr) (kc : ClassId) (h0 : Heap) (n0 : Nat) (Z0 : n0 ≤ h0.size) (O0 : Old Z n0 h0) (pE1 : Exa Z h0 a1 "java/lang/String") (pF1 : Fld Z h0 a1 "java/lang/String" "value" "[B" .null) (pF2 : Fld Z h0 a1 "java/lang/String" "coder" "B" (.int 0)) (pg1 : n0 ≤ a1) (VC : Arv Z h0 a2 kc .char (0 : Int32) [] (.int 0)) :
    MetFree l own_m6 (head1 (Jvm.Cond.code own_m6 jdk_42_method_3_code 2 none :: ws) (own_r 2 2 4 29)) (fun a U => a = #[(.ref a1), (.ref a2)] ∧ Z.Warmed39 U.vm ∧ U.heap = h0 ∧ CHv Z own_EL U.vm h0 ∧ ∀ x ∈ ([a1] : List Addr), Safe Z own_EL U.vm h0 x) (fun _ _ _ _ _ => True) (fun _ U o U' => ∃ v L, o = .returned v ∧ Qinit1_0 Z a1 a2 kc h0 n0 v U'.heap L ∧ CHr Z own_EL U.vm U.heap U'.vm U'.heap ∧ ReturnedEndW U o U' L (own_r 2 2 4 29).cells (own_r 2 2 4 29).slots) := by
  refine MetFree.of_bodySF (plainFor_of_name pn_2) hisR ?_
  intro p e s m args below meth c s₁ Bd hml0 hP hK
  obtain ⟨rfl, hZ, hh, hCH, hSF⟩ := hP
  have hx := Bd.exec
  have hby := Bd.bytes
  have hml : c.maxLocals = 2 := hml0
  have hown0 := findClass_of_methodNamed Bd.named
  have hown : s.vm.findClass "java/lang/String" = some m.cls := hown0
  have hnm := (name_of_methodNamed Bd.named Bd.method).1
  have X0 : Stand p l e (own_r 2 2 4 29) s m #[(.ref a1), (.ref a2)] below meth c s₁ [] 0 0 := Stand.of_body Bd
  have e0 : s₁.heap = h0 := by rw [← hh, Bd.state]; rfl
  have N0 := Fr.nil n0
  obtain ⟨S0, hS0⟩ : ∃ z, z = s₁.setTop (entryFrame m #[(.ref a1), (.ref a2)] 2) := ⟨_, rfl⟩
  have pre0 : own_Go p e below S0 (s₁.setTop (mkF m 0 #[.val (.ref a1), .val (.ref a2)] [])) := fun t k => by rw [hS0]; exact castTop (ef_init1_0 m a1 a2) k
  have fin : ∀ t, Steps p.tables e below S0 t → Steps p.tables e below (s₁.setTop (entryFrame m #[(.ref a1), (.ref a2)] 2)) t := fun t k => by rw [hS0] at k; exact k
  have ch0 : CHr Z own_EL s.vm h0 s.vm h0 := CHr.refl hCH
  have sf0 : Safe Z own_EL s.vm h0 a1 := hSF _ (List.mem_of_getElem? (i := 0) rfl)
  have kc0 : Keep h0 h0 [a1] := Keep.refl _ _
  have pre1 : own_Go p e below S0 (s₁.setTop (mkF m 4 #[.val (.ref a1), .val (.ref a2)] [(.ref a2), (.int 0), (.ref a2), (.ref a1)])) := by
    intro t kt
    refine pre0 t ?_
    refine XS.aloadN X0.here hx rfl (hb hby d2_0) rfl rfl ?_
    refine XS.aloadN X0.here hx rfl (hb hby d2_1) rfl rfl ?_
    refine XS.iconst X0.here hx rfl (hb hby d2_2) ?_
    refine XS.aloadN X0.here hx rfl (hb hby d2_3) rfl rfl ?_
    exact kt
  obtain ⟨cl2, Ar2, -, Sz2, Ng2, -, -⟩ := id VC
  have pre3 : own_Go p e below S0 (s₁.setTop (mkF m 6 #[.val (.ref a1), .val (.ref a2)] [.null, (.int 0), (.int 0), (.ref a2), (.ref a1)])) := by
    intro t kt
    refine pre1 t ?_
    refine X0.arraylength hx (by rw [e0]; exact Ar2.1) (State.isArrayOf_alike hZ.alike Ar2.2.1) (g := (mkF m 4 #[.val (.ref a1), .val (.ref a2)] [(.ref a2), (.int 0), (.ref a2), (.ref a1)])) rfl rfl (hb hby d2_4) _ ?_
    rw [len_of Sz2 Ng2]
    show Steps p.tables e below (s₁.setTop (mkF m 5 #[.val (.ref a1), .val (.ref a2)] [(.int 0), (.int 0), (.ref a2), (.ref a1)])) _
    refine XS.aconstNull X0.here hx rfl (hb hby d2_5) ?_
    exact kt
  obtain ⟨_, _, ⟨T4, L4, k4, n4⟩, -, X4, hSn4, hgn4, ⟨Lc4, hQ4, l4, y4, z4, cr4⟩, st4⟩ := X0.specialBackS hx (y := own_m7) rfl hown (mvT hZ (hw _ (own_w 16 rfl))) (mvT hZ (hw _ (own_w 17 rfl))) (mvT hZ (hw _ (own_w 19 rfl))) (by decide) (own_backH (s := s) (vm0 := s.vm) (W := 0) (rminit4_0 l Z a0 hw [] a1 a2 h0 n0 Z0 O0 pE1 pF1 pF2 pg1) hZ (hw _ (own_w 19 rfl)) (hw _ (own_w 11 rfl)) (by decide) (by decide) (own_EW a0 Z hw) ch0.1 (allS sf0 all0) (allS pE1.lt all0)) (g := (mkF m 6 #[.val (.ref a1), .val (.ref a2)] [.null, (.int 0), (.int 0), (.ref a2), (.ref a1)])) rfl (by rw [hml]; rfl) (Steps.refl _) (a := a1) (argsL := [(.ref a2), (.int 0), (.int 0), .null]) (rest := []) (lenOf pd_0 rfl) rfl (by show 2 * 0 + _ ≤ _; exact Nat.le_of_eq rfl) (hb hby d2_6) (fun _ _ => ⟨rfl, e0, (by decide : 0 + 2 ≤ _), (by decide : 0 + 4 ≤ _)⟩)
  dsimp only [Pt.U, Pt.locs, Pt.cells, Pt.slots] at X4 l4 y4 z4 st4 hQ4 hSn4 hgn4 cr4
  subst l4 y4 z4
  have hown := own_fc hown hSn4.1
  have hZ : Z.Warmed39 (s.setVm T4.vm).vm := State.Warmed39.trans (t := s) hZ hSn4.1
  obtain ⟨vb5, kb6, rfl, Nq4, K4, g7⟩ := hQ4
  have N4 := Fr.app N0 Nq4
  have zs8 : n0 ≤ T4.heap.size := Nat.le_trans Z0 K4.1
  have kc9 : Keep h0 T4.heap [a1] := kc0.trans K4 (allS (Or.inl (List.mem_of_getElem? (i := 0) rfl)) all0)
  have ch10 : CHr Z own_EL s.vm h0 T4.vm T4.heap := ch0.trans (cr4)
  have sf11 : Safe Z own_EL T4.vm T4.heap a1 := cr4.safe pE1.lt sf0
  have pre12 : own_Go p e below S0 (T4.setTop (mkF m 9 #[.val (.ref a1), .val (.ref a2)] [])) := by
    intro t kt
    refine pre3 t ?_
    refine st4.trans ?_
    show Steps p.tables e below (T4.setTop (mkF m 9 #[.val (.ref a1), .val (.ref a2)] [])) _
    exact kt
  obtain ⟨fs, hr, hrun, hended, hRW⟩ := Stand.leaveW (s := s) (vm₁ := T4.vm) X4 hSn4 (Nat.le_refl _) (v := none) (fun _ => rfl)
  refine ⟨_, _, fin _ (pre12 _ ?_), hrun, hended, _, _, rfl, ?_, (by rw [hh]; show CHr Z own_EL s.vm h0 T4.vm T4.heap; exact ch10.trans (CHv.at (s := s) (vm0 := T4.vm) X4 hZ (own_EW a0 Z hw) ch10.1)), own_wideMono hRW (by decide) (by decide)⟩
  · exact X4.returnOut hx Bd.returns (hb hby d2_9) hr
  · show Qinit1_0 Z a1 a2 kc h0 n0 _ T4.heap _
    exact ⟨vb5, kb6, rfl, N4, kc9, g7⟩

theorem d6_0 : decode jdk_52_method_21_code 0 = .ok (.iconst 0, 1) := by decide +kernel
theorem d6_1 : decode jdk_52_method_21_code 1 = .ok (.istore 5, 2) := by decide +kernel
theorem d6_3 : decode jdk_52_method_21_code 3 = .ok (.iload 5, 2) := by decide +kernel
theorem d6_5 : decode jdk_52_method_21_code 5 = .ok (.iload 4, 2) := by decide +kernel
theorem d6_7 : decode jdk_52_method_21_code 7 = .ok (.if_icmp .ge 37, 3) := by decide +kernel
theorem d6_10 : decode jdk_52_method_21_code 10 = .ok (.aload_n 0, 1) := by decide +kernel
theorem d6_11 : decode jdk_52_method_21_code 11 = .ok (.iload_n 1, 1) := by decide +kernel
theorem d6_12 : decode jdk_52_method_21_code 12 = .ok (.caload, 1) := by decide +kernel
theorem d6_13 : decode jdk_52_method_21_code 13 = .ok (.istore 6, 2) := by decide +kernel
theorem d6_15 : decode jdk_52_method_21_code 15 = .ok (.iload 6, 2) := by decide +kernel
theorem d6_17 : decode jdk_52_method_21_code 17 = .ok (.sipush 255, 3) := by decide +kernel
theorem d6_20 : decode jdk_52_method_21_code 20 = .ok (.if_icmp .le 6, 3) := by decide +kernel
theorem d6_23 : decode jdk_52_method_21_code 23 = .ok (.iload 5, 2) := by decide +kernel
theorem d6_25 : decode jdk_52_method_21_code 25 = .ok (.ireturn, 1) := by decide +kernel
theorem d6_26 : decode jdk_52_method_21_code 26 = .ok (.aload_n 2, 1) := by decide +kernel
theorem d6_27 : decode jdk_52_method_21_code 27 = .ok (.iload_n 3, 1) := by decide +kernel
theorem d6_28 : decode jdk_52_method_21_code 28 = .ok (.iload 6, 2) := by decide +kernel
theorem d6_30 : decode jdk_52_method_21_code 30 = .ok (.i2b, 1) := by decide +kernel
theorem d6_31 : decode jdk_52_method_21_code 31 = .ok (.bastore, 1) := by decide +kernel
theorem d6_32 : decode jdk_52_method_21_code 32 = .ok (.iinc 1 1, 3) := by decide +kernel
theorem d6_35 : decode jdk_52_method_21_code 35 = .ok (.iinc 3 1, 3) := by decide +kernel
theorem d6_38 : decode jdk_52_method_21_code 38 = .ok (.iinc 5 1, 3) := by decide +kernel
theorem d6_41 : decode jdk_52_method_21_code 41 = .ok (.goto (-38), 3) := by decide +kernel
theorem d6_44 : decode jdk_52_method_21_code 44 = .ok (.iload 4, 2) := by decide +kernel
theorem d6_46 : decode jdk_52_method_21_code 46 = .ok (.ireturn, 1) := by decide +kernel
theorem pn_6 : plainName "java/lang/StringUTF16" = true := by first | (simp [plainName, overriddenIn]; done) | decide +kernel
theorem ef_cmp5_1 (m : MethodId) (x0 : Addr) (x2 : Addr) : entryFrame m #[(.ref x0), (.int 0), (.ref x2), (.int 0), (.int 1)] 7 = mkF m 0 #[.val (.ref x0), .val (.int 0), .val (.ref x2), .val (.int 0), .val (.int 1), .unset, .unset] [] := by first | (simp [entryFrame, mkF, argsToLocals, Value.category]; done) | rfl
def Qcmp5_1 (Z : State) (a1 : Addr) (a2 : Addr) (kc : ClassId) (kb : ClassId) (c0 : Int32) (h0 : Heap) (n0 : Nat) (v : Option Value) (h : Heap) (L : List Loc) : Prop := ∃ r : Int32, v = (some (.int r)) ∧ Fr n0 L ∧ Keep h0 h [a2] ∧ ((r = (1 : Int32) ∧ own_Lat [c0] ∧ Arv Z h a2 kb .byte (1 : Int32) [(.int (nar .byte (c0.toInt8.toInt32)))] (.int 0)) ∨ (r = (0 : Int32) ∧ (255 : Int32) < c0))
set_option maxRecDepth 65536 in
set_option maxHeartbeats 40000000 in
theorem rmcmp5_1 (l : Launch) (Z : State) (a0 : Array Value) (hw : ∀ d ∈ tables_1, d.before a0 Z = true) (ws : List Jvm.Cond) (a1 : Addr) (a2 : Addr) (kc : ClassId) (kb : ClassId) (c0 : Int32) (h0 : Heap) (n0 : Nat) (Z0 : n0 ≤ h0.size) (VC : Arv Z h0 a1 kc .char (1 : Int32) [(.int c0)] (.int 0)) (g2 : n0 ≤ a2) (VB : Arv Z h0 a2 kb .byte (1 : Int32) [(.int 0)] (.int 0)) (n12 : a1 ≠ a2) :
    MetFree l own_m24 (head1 (Jvm.Cond.code own_m24 jdk_52_method_21_code 7 (some .int) :: ws) (own_r 0 0 0 0)) (fun a U => a = #[(.ref a1), (.int 0), (.ref a2), (.int 0), (.int 1)] ∧ Z.Warmed39 U.vm ∧ U.heap = h0) (fun _ _ _ _ _ => True) (fun _ U o U' => ∃ v L, o = .returned v ∧ Qcmp5_1 Z a1 a2 kc kb c0 h0 n0 v U'.heap L ∧ FrameEnd U o U' L (own_r 0 0 0 0).cells (own_r 0 0 0 0).slots) := by
  refine MetFree.of_bodySF (plainFor_of_name pn_6) hisR ?_
  intro p e s m args below meth c s₁ Bd hml0 hP hK
  obtain ⟨rfl, hZ, hh⟩ := hP
  have hx := Bd.exec
  have hby := Bd.bytes
  have hml : c.maxLocals = 7 := hml0
  have hown0 := findClass_of_methodNamed Bd.named
  have hown : s.vm.findClass "java/lang/StringUTF16" = some m.cls := hown0
  have hnm := (name_of_methodNamed Bd.named Bd.method).1
  have X0 : Stand p l e (own_r 0 0 0 0) s m #[(.ref a1), (.int 0), (.ref a2), (.int 0), (.int 1)] below meth c s₁ [] 0 0 := Stand.of_body Bd
  have e0 : s₁.heap = h0 := by rw [← hh, Bd.state]; rfl
  have N0 := Fr.nil n0
  obtain ⟨S0, hS0⟩ : ∃ z, z = s₁.setTop (entryFrame m #[(.ref a1), (.int 0), (.ref a2), (.int 0), (.int 1)] 7) := ⟨_, rfl⟩
  have pre0 : own_Go p e below S0 (s₁.setTop (mkF m 0 #[.val (.ref a1), .val (.int 0), .val (.ref a2), .val (.int 0), .val (.int 1), .unset, .unset] [])) := fun t k => by rw [hS0]; exact castTop (ef_cmp5_1 m a1 a2) k
  have fin : ∀ t, Steps p.tables e below S0 t → Steps p.tables e below (s₁.setTop (entryFrame m #[(.ref a1), (.int 0), (.ref a2), (.int 0), (.int 1)] 7)) t := fun t k => by rw [hS0] at k; exact k
  have kc0 : Keep h0 h0 [a2] := Keep.refl _ _
  have pre1 : own_Go p e below S0 (s₁.setTop (mkF m 12 #[.val (.ref a1), .val (.int 0), .val (.ref a2), .val (.int 0), .val (.int 1), .val (.int 0), .unset] [(.int 0), (.ref a1)])) := by
    intro t kt
    refine pre0 t ?_
    refine XS.iconst X0.here hx rfl (hb hby d6_0) ?_
    refine XS.istore X0.here hx rfl (hb hby d6_1) rfl (l' := #[.val (.ref a1), .val (.int 0), .val (.ref a2), .val (.int 0), .val (.int 1), .val (.int 0), .unset]) rfl ?_
    refine XS.iload X0.here hx rfl (hb hby d6_3) rfl ?_
    refine XS.iload X0.here hx rfl (hb hby d6_5) rfl ?_
    refine XS.icmpNo X0.here hx rfl (hb hby d6_7) rfl (tlt (by decide : (0 : Int32) < (1 : Int32))).2.1 ?_
    refine XS.aloadN X0.here hx rfl (hb hby d6_10) rfl rfl ?_
    show Steps p.tables e below (s₁.setTop (mkF m 11 #[.val (.ref a1), .val (.int 0), .val (.ref a2), .val (.int 0), .val (.int 1), .val (.int 0), .unset] [(.ref a1)])) _
    refine XS.iloadN X0.here hx rfl (hb hby d6_11) rfl ?_
    exact kt
  obtain ⟨cl2, Ar2, -, Sz2, -, Hs2, -⟩ := id VC
  have hin2 : ¬ ((0 : Int32) < 0 ∨ cl2.slots.size ≤ ((0 : Int32)).toNatClampNeg) := inb_of Sz2 ⟨by decide, by decide⟩
  have pre4 : own_Go p e below S0 (s₁.setTop (mkF m 20 #[.val (.ref a1), .val (.int 0), .val (.ref a2), .val (.int 0), .val (.int 1), .val (.int 0), .val (.int c0)] [(.int 255), (.int c0)])) := by
    intro t kt
    refine pre1 t ?_
    refine X0.caload hx (j := (0 : Int32)) (v := (.int c0)) (by rw [e0]; exact Ar2.1) (State.isArrayOf_alike hZ.alike Ar2.2.1) Ar2.2.2 hin2 (Hs2.at hin2 rfl) (g := (mkF m 12 #[.val (.ref a1), .val (.int 0), .val (.ref a2), .val (.int 0), .val (.int 1), .val (.int 0), .unset] [(.int 0), (.ref a1)])) rfl rfl (hb hby d6_12) _ ?_
    refine XS.istore X0.here hx rfl (hb hby d6_13) rfl (l' := #[.val (.ref a1), .val (.int 0), .val (.ref a2), .val (.int 0), .val (.int 1), .val (.int 0), .val (.int c0)]) rfl ?_
    refine XS.iload X0.here hx rfl (hb hby d6_15) rfl ?_
    refine XS.sipush X0.here hx rfl (hb hby d6_17) ?_
    exact kt
  by_cases hc3 : (255 : Int32) < c0
  · have pre5 : own_Go p e below S0 (s₁.setTop (mkF m 25 #[.val (.ref a1), .val (.int 0), .val (.ref a2), .val (.int 0), .val (.int 1), .val (.int 0), .val (.int c0)] [(.int 0)])) := by
      intro t kt
      refine pre4 t ?_
      refine XS.icmpNo X0.here hx rfl (hb hby d6_20) rfl (tlt hc3).2.2.2 ?_
      refine XS.iload X0.here hx rfl (hb hby d6_23) rfl ?_
      exact kt
    obtain ⟨fs, hr, hrun, hended, hW, hsame⟩ := X0.leave (v := some (.int 0)) (fun h => by rw [Bd.returns] at h; cases h)
    refine ⟨_, _, fin _ (pre5 _ ?_), hrun, hended, _, _, rfl, ?_, ⟨_, rfl⟩, hW, hsame.mono (by decide) (by decide)⟩
    · exact retI X0 hx Bd.returns (hb hby d6_25) hr
    · show Qcmp5_1 Z a1 a2 kc kb c0 h0 n0 _ s₁.heap _
      rw [e0]
      exact ⟨(0 : Int32), rfl, N0, kc0, (Or.inr (⟨rfl, hc3⟩))⟩
  · have pre6 : own_Go p e below S0 (s₁.setTop (mkF m 31 #[.val (.ref a1), .val (.int 0), .val (.ref a2), .val (.int 0), .val (.int 1), .val (.int 0), .val (.int c0)] [(.int (c0.toInt8.toInt32)), (.int 0), (.ref a2)])) := by
      intro t kt
      refine pre4 t ?_
      refine XS.icmpYes X0.here hx rfl (pc0 := 20) (pc' := 26) rfl (hb hby d6_20) rfl (flt hc3).2.2.2 (by decide) (by decide) ?_
      refine XS.aloadN X0.here hx rfl (hb hby d6_26) rfl rfl ?_
      refine XS.iloadN X0.here hx rfl (hb hby d6_27) rfl ?_
      refine XS.iload X0.here hx rfl (hb hby d6_28) rfl ?_
      refine XS.i2b X0.here hx rfl (hb hby d6_30) rfl ?_
      exact kt
    obtain ⟨cl7, Ar7, q7, Sz7, Ng7, Hs7, Gt7⟩ := id VB
    have hin7 : ¬ ((0 : Int32) < 0 ∨ cl7.slots.size ≤ ((0 : Int32)).toNatClampNeg) := inb_of Sz7 ⟨by decide, by decide⟩
    obtain ⟨T7, h7, X7, e7, W7, st7⟩ := stB X0 hx hZ e0 Ar7 (j := (0 : Int32)) hin7 (g := (mkF m 31 #[.val (.ref a1), .val (.int 0), .val (.ref a2), .val (.int 0), .val (.int 1), .val (.int 0), .val (.int c0)] [(.int (c0.toInt8.toInt32)), (.int 0), (.ref a2)])) rfl rfl (hb hby d6_31)
    have N7 := Fr.snoc X7 N0 g2
    have zs8 : n0 ≤ h7.size := Nat.le_trans Z0 (Keep.of_wr W7).1
    have kc9 : Keep h0 h7 [a2] := kc0.wr W7 (Or.inl (List.mem_of_getElem? (i := 0) rfl))
    have V7 : Arv Z h7 a2 kb .byte (1 : Int32) [(.int (nar .byte (c0.toInt8.toInt32)))] (.int 0) := Arv.set Ar7 q7 Sz7 Ng7 Hs7 Gt7 (fits_nar_byte _) W7 0 rfl (Nat.le_of_ble_eq_true rfl)
    have pre10 : own_Go p e below S0 (T7.setTop (mkF m 46 #[.val (.ref a1), .val (.int 1), .val (.ref a2), .val (.int 1), .val (.int 1), .val (.int 1), .val (.int c0)] [(.int 1)])) := by
      intro t kt
      refine pre6 t ?_
      refine st7 _ ?_
      refine XS.iinc X7.here hx rfl (hb hby d6_32) rfl (l' := #[.val (.ref a1), .val (.int 1), .val (.ref a2), .val (.int 0), .val (.int 1), .val (.int 0), .val (.int c0)]) rfl ?_
      refine XS.iinc X7.here hx rfl (hb hby d6_35) rfl (l' := #[.val (.ref a1), .val (.int 1), .val (.ref a2), .val (.int 1), .val (.int 1), .val (.int 0), .val (.int c0)]) rfl ?_
      refine XS.iinc X7.here hx rfl (hb hby d6_38) rfl (l' := #[.val (.ref a1), .val (.int 1), .val (.ref a2), .val (.int 1), .val (.int 1), .val (.int 1), .val (.int c0)]) rfl ?_
      refine XS.goto X7.here hx rfl (pc0 := 41) (pc' := 3) rfl (hb hby d6_41) (by decide) (by decide) ?_
      refine XS.iload X7.here hx rfl (hb hby d6_3) rfl ?_
      show Steps p.tables e below (T7.setTop (mkF m 5 #[.val (.ref a1), .val (.int 1), .val (.ref a2), .val (.int 1), .val (.int 1), .val (.int 1), .val (.int c0)] [(.int 1)])) _
      refine XS.iload X7.here hx rfl (hb hby d6_5) rfl ?_
      refine XS.icmpYes X7.here hx rfl (pc0 := 7) (pc' := 44) rfl (hb hby d6_7) rfl (flt (by decide : ¬ ((1 : Int32) < (1 : Int32)))).2.1 (by decide) (by decide) ?_
      refine XS.iload X7.here hx rfl (hb hby d6_44) rfl ?_
      exact kt
    obtain ⟨fs, hr, hrun, hended, hW, hsame⟩ := X7.leave (v := some (.int 1)) (fun h => by rw [Bd.returns] at h; cases h)
    refine ⟨_, _, fin _ (pre10 _ ?_), hrun, hended, _, _, rfl, ?_, ⟨_, rfl⟩, hW, hsame.mono (by decide) (by decide)⟩
    · exact retI X7 hx Bd.returns (hb hby d6_46) hr
    · show Qcmp5_1 Z a1 a2 kc kb c0 h0 n0 _ T7.heap _
      rw [e7]
      exact ⟨(1 : Int32), rfl, N7, kc9, (Or.inl ⟨rfl, ⟨⟨(own_fitAt VC 0 (by decide) rfl).1, own_ltOf hc3⟩, trivial⟩, V7⟩)⟩

theorem d28_0 : decode jdk_52_method_3_code 0 = .ok (.iload_n 0, 1) := by decide +kernel
theorem d28_1 : decode jdk_52_method_3_code 1 = .ok (.ifCond .ge 11, 3) := by decide +kernel
theorem d28_12 : decode jdk_52_method_3_code 12 = .ok (.iload_n 0, 1) := by decide +kernel
theorem d28_13 : decode jdk_52_method_3_code 13 = .ok (.ldc 20, 2) := by decide +kernel
theorem d28_15 : decode jdk_52_method_3_code 15 = .ok (.if_icmp .lt 40, 3) := by decide +kernel
theorem d28_55 : decode jdk_52_method_3_code 55 = .ok (.iload_n 0, 1) := by decide +kernel
theorem d28_56 : decode jdk_52_method_3_code 56 = .ok (.iconst 1, 1) := by decide +kernel
theorem d28_57 : decode jdk_52_method_3_code 57 = .ok (.ishl, 1) := by decide +kernel
theorem d28_58 : decode jdk_52_method_3_code 58 = .ok (.ireturn, 1) := by decide +kernel
theorem pn_28 : plainName "java/lang/StringUTF16" = true := by first | (simp [plainName, overriddenIn]; done) | decide +kernel
theorem ef_nlen (m : MethodId) (x0 : Int32) : entryFrame m #[(.int x0)] 1 = mkF m 0 #[.val (.int x0)] [] := by first | (simp [entryFrame, mkF, argsToLocals, Value.category]; done) | rfl
def own_nbl (p1 : Int32) : Int32 := (p1 <<< ((1 : Int32) &&& 31))
def Qnlen (Z : State) (p1 : Int32) (h0 : Heap) (n0 : Nat) (v : Option Value) (h : Heap) (L : List Loc) : Prop := v = (some (.int (own_nbl p1))) ∧ Fr n0 L ∧ h = h0
set_option maxRecDepth 65536 in
set_option maxHeartbeats 40000000 in
theorem rmnlen (l : Launch) (Z : State) (a0 : Array Value) (hw : ∀ d ∈ tables_1, d.before a0 Z = true) (ws : List Jvm.Cond) (p1 : Int32) (h0 : Heap) (n0 : Nat) (Z0 : n0 ≤ h0.size) (h1 : (¬ p1 < (0 : Int32))) (h2 : (p1 < (1073741823 : Int32))) :
    MetFree l own_m28 (head1 (Jvm.Cond.code own_m28 jdk_52_method_3_code 1 (some .int) :: ws) (own_r 0 0 0 0)) (fun a U => a = #[(.int p1)] ∧ Z.Warmed39 U.vm ∧ U.heap = h0) (fun _ _ _ _ _ => True) (fun _ U o U' => ∃ v L, o = .returned v ∧ Qnlen Z p1 h0 n0 v U'.heap L ∧ FrameEnd U o U' L (own_r 0 0 0 0).cells (own_r 0 0 0 0).slots) := by
  refine MetFree.of_bodySF (plainFor_of_name pn_28) hisR ?_
  intro p e s m args below meth c s₁ Bd hml0 hP hK
  obtain ⟨rfl, hZ, hh⟩ := hP
  have hx := Bd.exec
  have hby := Bd.bytes
  have hml : c.maxLocals = 1 := hml0
  have hown0 := findClass_of_methodNamed Bd.named
  have hown : s.vm.findClass "java/lang/StringUTF16" = some m.cls := hown0
  have hnm := (name_of_methodNamed Bd.named Bd.method).1
  have X0 : Stand p l e (own_r 0 0 0 0) s m #[(.int p1)] below meth c s₁ [] 0 0 := Stand.of_body Bd
  have e0 : s₁.heap = h0 := by rw [← hh, Bd.state]; rfl
  have N0 := Fr.nil n0
  obtain ⟨S0, hS0⟩ : ∃ z, z = s₁.setTop (entryFrame m #[(.int p1)] 1) := ⟨_, rfl⟩
  have pre0 : own_Go p e below S0 (s₁.setTop (mkF m 0 #[.val (.int p1)] [])) := fun t k => by rw [hS0]; exact castTop (ef_nlen m p1) k
  have fin : ∀ t, Steps p.tables e below S0 t → Steps p.tables e below (s₁.setTop (entryFrame m #[(.int p1)] 1)) t := fun t k => by rw [hS0] at k; exact k
  have pre1 : own_Go p e below S0 (s₁.setTop (mkF m 58 #[.val (.int p1)] [(.int (p1 <<< ((1 : Int32) &&& 31)))])) := by
    intro t kt
    refine pre0 t ?_
    refine XS.iloadN X0.here hx rfl (hb hby d28_0) rfl ?_
    refine XS.ifYes X0.here hx rfl (pc0 := 1) (pc' := 12) rfl (hb hby d28_1) rfl ((if0 _ _).trans (flt h1).2.1) (by decide) (by decide) ?_
    refine XS.iloadN X0.here hx rfl (hb hby d28_12) rfl ?_
    refine X0.ldcInt hx hown (mvT hZ (hw _ (own_w 128 rfl))) (g := (mkF m 13 #[.val (.int p1)] [(.int p1)])) rfl (hb hby d28_13) _ ?_
    refine XS.icmpYes X0.here hx rfl (pc0 := 15) (pc' := 55) rfl (hb hby d28_15) rfl (tlt h2).1 (by decide) (by decide) ?_
    refine XS.iloadN X0.here hx rfl (hb hby d28_55) rfl ?_
    show Steps p.tables e below (s₁.setTop (mkF m 56 #[.val (.int p1)] [(.int p1)])) _
    refine XS.iconst X0.here hx rfl (hb hby d28_56) ?_
    refine XS.ishl X0.here hx rfl (hb hby d28_57) rfl ?_
    exact kt
  obtain ⟨fs, hr, hrun, hended, hW, hsame⟩ := X0.leave (v := some (.int (p1 <<< ((1 : Int32) &&& 31)))) (fun h => by rw [Bd.returns] at h; cases h)
  refine ⟨_, _, fin _ (pre1 _ ?_), hrun, hended, _, _, rfl, ?_, ⟨_, rfl⟩, hW, hsame.mono (by decide) (by decide)⟩
  · exact retI X0 hx Bd.returns (hb hby d28_58) hr
  · show Qnlen Z p1 h0 n0 _ s₁.heap _
    rw [e0]
    exact ⟨(by show some _ = some _; rw [own_nbl]), N0, rfl⟩

theorem d27_0 : decode jdk_52_method_2_code 0 = .ok (.iload_n 0, 1) := by decide +kernel
theorem d27_1 : decode jdk_52_method_2_code 1 = .ok (.invokestatic 11, 3) := by decide +kernel
theorem d27_4 : decode jdk_52_method_2_code 4 = .ok (.newarray .byte, 2) := by decide +kernel
theorem d27_6 : decode jdk_52_method_2_code 6 = .ok (.areturn, 1) := by decide +kernel
theorem pn_27 : plainName "java/lang/StringUTF16" = true := by first | (simp [plainName, overriddenIn]; done) | decide +kernel
theorem pd_1 : parseMethodDescriptor "(I)I" = some ⟨[.int], some .int⟩ := by decide +kernel
theorem ef_nfor_1 (m : MethodId)  : entryFrame m #[(.int 1)] 1 = mkF m 0 #[.val (.int 1)] [] := by first | (simp [entryFrame, mkF, argsToLocals, Value.category]; done) | rfl
def Qnfor_1 (Z : State)  (h0 : Heap) (n0 : Nat) (v : Option Value) (h : Heap) (L : List Loc) : Prop := ∃ b : Addr, ∃ kb : ClassId, v = (some (.ref b)) ∧ Fr n0 L ∧ Keep h0 h [] ∧ h0.size ≤ b ∧ Arv Z h b kb .byte (2 : Int32) [(.int 0), (.int 0)] (.int 0)
set_option maxRecDepth 65536 in
set_option maxHeartbeats 40000000 in
theorem rmnfor_1 (l : Launch) (Z : State) (a0 : Array Value) (hw : ∀ d ∈ tables_1, d.before a0 Z = true) (ws : List Jvm.Cond)  (h0 : Heap) (n0 : Nat) (Z0 : n0 ≤ h0.size) :
    MetFree l own_m27 (head1 (Jvm.Cond.code own_m27 jdk_52_method_2_code 1 (some (.array .byte)) :: ws) (own_r 1 1 2 12)) (fun a U => a = #[(.int 1)] ∧ Z.Warmed39 U.vm ∧ U.heap = h0) (fun _ _ _ _ _ => True) (fun _ U o U' => ∃ v L, o = .returned v ∧ Qnfor_1 Z  h0 n0 v U'.heap L ∧ FrameEnd U o U' L (own_r 1 1 2 12).cells (own_r 1 1 2 12).slots) := by
  refine MetFree.of_bodySF (plainFor_of_name pn_27) hisR ?_
  intro p e s m args below meth c s₁ Bd hml0 hP hK
  obtain ⟨rfl, hZ, hh⟩ := hP
  have hx := Bd.exec
  have hby := Bd.bytes
  have hml : c.maxLocals = 1 := hml0
  have hown0 := findClass_of_methodNamed Bd.named
  have hown : s.vm.findClass "java/lang/StringUTF16" = some m.cls := hown0
  have hnm := (name_of_methodNamed Bd.named Bd.method).1
  have X0 : Stand p l e (own_r 1 1 2 12) s m #[(.int 1)] below meth c s₁ [] 0 0 := Stand.of_body Bd
  have e0 : s₁.heap = h0 := by rw [← hh, Bd.state]; rfl
  have N0 := Fr.nil n0
  obtain ⟨S0, hS0⟩ : ∃ z, z = s₁.setTop (entryFrame m #[(.int 1)] 1) := ⟨_, rfl⟩
  have pre0 : own_Go p e below S0 (s₁.setTop (mkF m 0 #[.val (.int 1)] [])) := fun t k => by rw [hS0]; exact castTop (ef_nfor_1 m ) k
  have fin : ∀ t, Steps p.tables e below S0 t → Steps p.tables e below (s₁.setTop (entryFrame m #[(.int 1)] 1)) t := fun t k => by rw [hS0] at k; exact k
  have kc0 : Keep h0 h0 [] := Keep.refl _ _
  have pre1 : own_Go p e below S0 (s₁.setTop (mkF m 1 #[.val (.int 1)] [(.int 1)])) := by
    intro t kt
    refine pre0 t ?_
    refine XS.iloadN X0.here hx rfl (hb hby d27_0) rfl ?_
    exact kt
  obtain ⟨_, _, ⟨T2, L2, k2, n2⟩, -, X2, ⟨Lc2, hQ2, l2, y2, z2⟩, st2⟩ := Jvm.LawKit.callS X0 hx (y := own_m28) hown (mvT hZ (hw _ (own_w 125 rfl))) (mvT hZ (hw _ (own_w 126 rfl))) (mvT hZ (hw _ (own_w 26 rfl))) (mvT hZ (hw _ (own_w 127 rfl))) (by decide) (backOf (W := 0) (rmnlen l Z a0 hw [] (1 : Int32) h0 n0 Z0 (by decide) (by decide)) hZ (hw _ (own_w 127 rfl)) (hw _ (own_w 26 rfl)) (by decide) (by decide)) (g := (mkF m 1 #[.val (.int 1)] [(.int 1)])) rfl (by rw [hml]; rfl) (argsL := [(.int 1)]) (rest := []) (lenOf pd_1 rfl) rfl (by show 2 * 0 + _ ≤ _; exact Nat.le_of_eq rfl) (hb hby d27_1) (fun _ _ => ⟨rfl, e0, (by decide : 0 + 0 ≤ _), (by decide : 0 + 0 ≤ _)⟩)
  dsimp only [Pt.U, Pt.locs, Pt.cells, Pt.slots] at X2 l2 y2 z2 st2 hQ2
  subst l2 y2 z2
  obtain ⟨rfl, Nq2, eq2⟩ := hQ2
  have N2 := Fr.app N0 Nq2
  have pre3 : own_Go p e below S0 (T2.setTop (mkF m 4 #[.val (.int 1)] [(.int (own_nbl (1 : Int32)))])) := by
    intro t kt
    refine pre1 t ?_
    refine st2 _ ?_
    show Steps p.tables e below (T2.setTop (mkF m 4 #[.val (.int 1)] [(.int (own_nbl (1 : Int32)))])) _
    exact kt
  have pre4 : own_Go p e below S0 (T2.setTop (mkF m 4 #[.val (.int 1)] [(.int 2)])) := by
    intro t kt
    refine pre3 t ?_
    rw [(by decide : (own_nbl (1 : Int32)) = (2 : Int32))]
    exact kt
  obtain ⟨T5, h5, k5, X5, e5, E5, A5, st5⟩ := newP X2 hx hZ (hw _ (own_w 28 rfl)) eq2 (g := (mkF m 4 #[.val (.int 1)] [(.int 2)])) rfl (hb hby d27_4) rfl (by decide) (cap := 2) (by decide) (by decide) (by decide) (by decide)
  obtain ⟨b5, g5⟩ : ∃ z, z = h0.size := ⟨_, rfl⟩
  rw [← g5] at A5 st5
  have ge6 : n0 ≤ b5 := Nat.le_trans Z0 (Nat.le_of_eq g5.symm)
  have sz7 : h0.size ≤ b5 := Nat.le_trans kc0.1 (Nat.le_of_eq g5.symm)
  have zs8 : n0 ≤ h5.size := Nat.le_trans Z0 E5.1
  have kc9 : Keep h0 h5 [] := kc0.ext E5
  have V5 : Arv Z h5 b5 k5 .byte (2 : Int32) [(.int 0), (.int 0)] (.int 0) := (Arv.new A5 (by decide)).pad (pad_rep [] (.int 0) 2)
  have pre10 : own_Go p e below S0 (T5.setTop (mkF m 6 #[.val (.int 1)] [(.ref b5)])) := by
    intro t kt
    refine pre4 t ?_
    refine st5 _ ?_
    exact kt
  obtain ⟨fs, hr, hrun, hended, hW, hsame⟩ := X5.leave (v := some (.ref b5)) (fun h => by rw [Bd.returns] at h; cases h)
  refine ⟨_, _, fin _ (pre10 _ ?_), hrun, hended, _, _, rfl, ?_, ⟨_, rfl⟩, hW, hsame.mono (by decide) (by decide)⟩
  · jvm_step X5.here [X5.here.top, hx, (hb hby d27_6), X5.method', Bd.returns, Value.isRef, FieldType.isReference]
    first | (intro acts; rw [hr _ acts rfl rfl rfl]) | rw [hr _ _ rfl rfl rfl]
    exact Steps.refl _
  · show Qnfor_1 Z  h0 n0 _ T5.heap _
    rw [e5]
    exact ⟨b5, k5, rfl, N2, kc9, sz7, V5⟩

theorem d29_0 : decode jdk_52_method_4_code 0 = .ok (.getstatic 44, 3) := by decide +kernel
theorem d29_3 : decode jdk_52_method_4_code 3 = .ok (.ifCond .ne 25, 3) := by decide +kernel
theorem d29_28 : decode jdk_52_method_4_code 28 = .ok (.iload_n 1, 1) := by decide +kernel
theorem d29_29 : decode jdk_52_method_4_code 29 = .ok (.iconst 1, 1) := by decide +kernel
theorem d29_30 : decode jdk_52_method_4_code 30 = .ok (.ishl, 1) := by decide +kernel
theorem d29_31 : decode jdk_52_method_4_code 31 = .ok (.istore_n 1, 1) := by decide +kernel
theorem d29_32 : decode jdk_52_method_4_code 32 = .ok (.aload_n 0, 1) := by decide +kernel
theorem d29_33 : decode jdk_52_method_4_code 33 = .ok (.iload_n 1, 1) := by decide +kernel
theorem d29_34 : decode jdk_52_method_4_code 34 = .ok (.iinc 1 1, 3) := by decide +kernel
theorem d29_37 : decode jdk_52_method_4_code 37 = .ok (.iload_n 2, 1) := by decide +kernel
theorem d29_38 : decode jdk_52_method_4_code 38 = .ok (.getstatic 59, 3) := by decide +kernel
theorem d29_41 : decode jdk_52_method_4_code 41 = .ok (.ishr, 1) := by decide +kernel
theorem d29_42 : decode jdk_52_method_4_code 42 = .ok (.i2b, 1) := by decide +kernel
theorem d29_43 : decode jdk_52_method_4_code 43 = .ok (.bastore, 1) := by decide +kernel
theorem d29_44 : decode jdk_52_method_4_code 44 = .ok (.aload_n 0, 1) := by decide +kernel
theorem d29_45 : decode jdk_52_method_4_code 45 = .ok (.iload_n 1, 1) := by decide +kernel
theorem d29_46 : decode jdk_52_method_4_code 46 = .ok (.iload_n 2, 1) := by decide +kernel
theorem d29_47 : decode jdk_52_method_4_code 47 = .ok (.getstatic 63, 3) := by decide +kernel
theorem d29_50 : decode jdk_52_method_4_code 50 = .ok (.ishr, 1) := by decide +kernel
theorem d29_51 : decode jdk_52_method_4_code 51 = .ok (.i2b, 1) := by decide +kernel
theorem d29_52 : decode jdk_52_method_4_code 52 = .ok (.bastore, 1) := by decide +kernel
theorem d29_53 : decode jdk_52_method_4_code 53 = .ok (.return_, 1) := by decide +kernel
theorem pn_29 : plainName "java/lang/StringUTF16" = true := by first | (simp [plainName, overriddenIn]; done) | decide +kernel
theorem ef_putc_0_2 (m : MethodId) (x0 : Addr) (x2 : Int32) : entryFrame m #[(.ref x0), (.int 0), (.int x2)] 3 = mkF m 0 #[.val (.ref x0), .val (.int 0), .val (.int x2)] [] := by first | (simp [entryFrame, mkF, argsToLocals, Value.category]; done) | rfl
def Qputc_0_2 (Z : State) (a1 : Addr) (p3 : Int32) (k1 : ClassId) (u0 : Value) (u1 : Value) (h0 : Heap) (n0 : Nat) (v : Option Value) (h : Heap) (L : List Loc) : Prop := v = none ∧ Fr n0 L ∧ Keep h0 h [a1] ∧ Arv Z h a1 k1 .byte (2 : Int32) [(.int (nar .byte ((p3 >>> ((0 : Int32) &&& 31)).toInt8.toInt32))), (.int (nar .byte ((p3 >>> ((8 : Int32) &&& 31)).toInt8.toInt32)))] (.int 0)
set_option maxRecDepth 65536 in
set_option maxHeartbeats 40000000 in
theorem rmputc_0_2 (l : Launch) (Z : State) (a0 : Array Value) (hw : ∀ d ∈ tables_1, d.before a0 Z = true) (ws : List Jvm.Cond) (a1 : Addr) (p3 : Int32) (k1 : ClassId) (u0 : Value) (u1 : Value) (h0 : Heap) (n0 : Nat) (Z0 : n0 ≤ h0.size) (O0 : Old Z n0 h0) (qU : (own_SU Z)) (g1 : n0 ≤ a1) (V1 : Arv Z h0 a1 k1 .byte (2 : Int32) [u0, u1] (.int 0)) :
    MetFree l own_m29 (head1 (Jvm.Cond.code own_m29 jdk_52_method_4_code 3 none :: ws) (own_r 0 0 0 0)) (fun a U => a = #[(.ref a1), (.int 0), (.int p3)] ∧ Z.Warmed39 U.vm ∧ U.heap = h0) (fun _ _ _ _ _ => True) (fun _ U o U' => ∃ v L, o = .returned v ∧ Qputc_0_2 Z a1 p3 k1 u0 u1 h0 n0 v U'.heap L ∧ FrameEnd U o U' L (own_r 0 0 0 0).cells (own_r 0 0 0 0).slots) := by
  refine MetFree.of_bodySF (plainFor_of_name pn_29) hisR ?_
  intro p e s m args below meth c s₁ Bd hml0 hP hK
  obtain ⟨rfl, hZ, hh⟩ := hP
  have hx := Bd.exec
  have hby := Bd.bytes
  have hml : c.maxLocals = 3 := hml0
  have hown0 := findClass_of_methodNamed Bd.named
  have hown : s.vm.findClass "java/lang/StringUTF16" = some m.cls := hown0
  have hnm := (name_of_methodNamed Bd.named Bd.method).1
  have X0 : Stand p l e (own_r 0 0 0 0) s m #[(.ref a1), (.int 0), (.int p3)] below meth c s₁ [] 0 0 := Stand.of_body Bd
  have e0 : s₁.heap = h0 := by rw [← hh, Bd.state]; rfl
  have N0 := Fr.nil n0
  obtain ⟨S0, hS0⟩ : ∃ z, z = s₁.setTop (entryFrame m #[(.ref a1), (.int 0), (.int p3)] 3) := ⟨_, rfl⟩
  have pre0 : own_Go p e below S0 (s₁.setTop (mkF m 0 #[.val (.ref a1), .val (.int 0), .val (.int p3)] [])) := fun t k => by rw [hS0]; exact castTop (ef_putc_0_2 m a1 p3) k
  have fin : ∀ t, Steps p.tables e below S0 t → Steps p.tables e below (s₁.setTop (entryFrame m #[(.ref a1), (.int 0), (.int p3)] 3)) t := fun t k => by rw [hS0] at k; exact k
  have kc0 : Keep h0 h0 [a1] := Keep.refl _ _
  obtain ⟨T1, X1, e1, st1⟩ := getS2 X0 hx hZ hown (host := "") (Or.inl (hw _ (own_w 132 rfl))) Via.refl e0 (qU.1.ext O0.2) (g := (mkF m 0 #[.val (.ref a1), .val (.int 0), .val (.int p3)] [])) rfl (hb hby d29_0)
  have pre2 : own_Go p e below S0 (T1.setTop (mkF m 38 #[.val (.ref a1), .val (.int 1), .val (.int p3)] [(.int p3), (.int 0), (.ref a1)])) := by
    intro t kt
    refine pre0 t ?_
    refine st1 _ ?_
    refine XS.ifYes X1.here hx rfl (pc0 := 3) (pc' := 28) rfl (hb hby d29_3) rfl ((if0 _ _).trans (feq (by decide : ¬ ((1 : Int32) = (0 : Int32)))).2) (by decide) (by decide) ?_
    refine XS.iloadN X1.here hx rfl (hb hby d29_28) rfl ?_
    refine XS.iconst X1.here hx rfl (hb hby d29_29) ?_
    refine XS.ishl X1.here hx rfl (hb hby d29_30) rfl ?_
    refine XS.istoreN X1.here hx rfl (hb hby d29_31) rfl (l' := #[.val (.ref a1), .val (.int 0), .val (.int p3)]) rfl ?_
    show Steps p.tables e below (T1.setTop (mkF m 32 #[.val (.ref a1), .val (.int 0), .val (.int p3)] [])) _
    refine XS.aloadN X1.here hx rfl (hb hby d29_32) rfl rfl ?_
    refine XS.iloadN X1.here hx rfl (hb hby d29_33) rfl ?_
    refine XS.iinc X1.here hx rfl (hb hby d29_34) rfl (l' := #[.val (.ref a1), .val (.int 1), .val (.int p3)]) rfl ?_
    refine XS.iloadN X1.here hx rfl (hb hby d29_37) rfl ?_
    exact kt
  obtain ⟨T3, X3, e3, st3⟩ := getS2 X1 hx hZ hown (host := "") (Or.inl (hw _ (own_w 133 rfl))) Via.refl e1 (qU.2.1.ext O0.2) (g := (mkF m 38 #[.val (.ref a1), .val (.int 1), .val (.int p3)] [(.int p3), (.int 0), (.ref a1)])) rfl (hb hby d29_38)
  have pre4 : own_Go p e below S0 (T3.setTop (mkF m 43 #[.val (.ref a1), .val (.int 1), .val (.int p3)] [(.int ((p3 >>> ((0 : Int32) &&& 31)).toInt8.toInt32)), (.int 0), (.ref a1)])) := by
    intro t kt
    refine pre2 t ?_
    refine st3 _ ?_
    refine XS.ishr X3.here hx rfl (hb hby d29_41) rfl ?_
    refine XS.i2b X3.here hx rfl (hb hby d29_42) rfl ?_
    exact kt
  obtain ⟨cl5, Ar5, q5, Sz5, Ng5, Hs5, Gt5⟩ := id V1
  have hin5 : ¬ ((0 : Int32) < 0 ∨ cl5.slots.size ≤ ((0 : Int32)).toNatClampNeg) := inb_of Sz5 ⟨by decide, by decide⟩
  obtain ⟨T5, h5, X5, e5, W5, st5⟩ := stB X3 hx hZ e3 Ar5 (j := (0 : Int32)) hin5 (g := (mkF m 43 #[.val (.ref a1), .val (.int 1), .val (.int p3)] [(.int ((p3 >>> ((0 : Int32) &&& 31)).toInt8.toInt32)), (.int 0), (.ref a1)])) rfl rfl (hb hby d29_43)
  have N5 := Fr.snoc X5 N0 g1
  have zs6 : n0 ≤ h5.size := Nat.le_trans Z0 (Keep.of_wr W5).1
  have kc7 : Keep h0 h5 [a1] := kc0.wr W5 (Or.inl (List.mem_of_getElem? (i := 0) rfl))
  have V5 : Arv Z h5 a1 k1 .byte (2 : Int32) [(.int (nar .byte ((p3 >>> ((0 : Int32) &&& 31)).toInt8.toInt32))), u1] (.int 0) := Arv.set Ar5 q5 Sz5 Ng5 Hs5 Gt5 (fits_nar_byte _) W5 0 rfl (Nat.le_of_ble_eq_true rfl)
  have pre8 : own_Go p e below S0 (T5.setTop (mkF m 47 #[.val (.ref a1), .val (.int 1), .val (.int p3)] [(.int p3), (.int 1), (.ref a1)])) := by
    intro t kt
    refine pre4 t ?_
    refine st5 _ ?_
    refine XS.aloadN X5.here hx rfl (hb hby d29_44) rfl rfl ?_
    refine XS.iloadN X5.here hx rfl (hb hby d29_45) rfl ?_
    refine XS.iloadN X5.here hx rfl (hb hby d29_46) rfl ?_
    exact kt
  have f9 : Old Z n0 h5 := (O0.wr W5 g1)
  obtain ⟨T10, X10, e10, st10⟩ := getS2 X5 hx hZ hown (host := "") (Or.inl (hw _ (own_w 134 rfl))) Via.refl e5 (qU.2.2.ext f9.2) (g := (mkF m 47 #[.val (.ref a1), .val (.int 1), .val (.int p3)] [(.int p3), (.int 1), (.ref a1)])) rfl (hb hby d29_47)
  have pre11 : own_Go p e below S0 (T10.setTop (mkF m 52 #[.val (.ref a1), .val (.int 1), .val (.int p3)] [(.int ((p3 >>> ((8 : Int32) &&& 31)).toInt8.toInt32)), (.int 1), (.ref a1)])) := by
    intro t kt
    refine pre8 t ?_
    refine st10 _ ?_
    refine XS.ishr X10.here hx rfl (hb hby d29_50) rfl ?_
    refine XS.i2b X10.here hx rfl (hb hby d29_51) rfl ?_
    exact kt
  obtain ⟨cl12, Ar12, q12, Sz12, Ng12, Hs12, Gt12⟩ := id V5
  have hin12 : ¬ ((1 : Int32) < 0 ∨ cl12.slots.size ≤ ((1 : Int32)).toNatClampNeg) := inb_of Sz12 ⟨by decide, by decide⟩
  obtain ⟨T12, h12, X12, e12, W12, st12⟩ := stB X10 hx hZ e10 Ar12 (j := (1 : Int32)) hin12 (g := (mkF m 52 #[.val (.ref a1), .val (.int 1), .val (.int p3)] [(.int ((p3 >>> ((8 : Int32) &&& 31)).toInt8.toInt32)), (.int 1), (.ref a1)])) rfl rfl (hb hby d29_52)
  have N12 := Fr.snoc X12 N5 g1
  have zs13 : n0 ≤ h12.size := Nat.le_trans zs6 (Keep.of_wr W12).1
  have kc14 : Keep h0 h12 [a1] := kc7.wr W12 (Or.inl (List.mem_of_getElem? (i := 0) rfl))
  have V12 : Arv Z h12 a1 k1 .byte (2 : Int32) [(.int (nar .byte ((p3 >>> ((0 : Int32) &&& 31)).toInt8.toInt32))), (.int (nar .byte ((p3 >>> ((8 : Int32) &&& 31)).toInt8.toInt32)))] (.int 0) := Arv.set Ar12 q12 Sz12 Ng12 Hs12 Gt12 (fits_nar_byte _) W12 1 rfl (Nat.le_of_ble_eq_true rfl)
  have pre15 : own_Go p e below S0 (T12.setTop (mkF m 53 #[.val (.ref a1), .val (.int 1), .val (.int p3)] [])) := by
    intro t kt
    refine pre11 t ?_
    refine st12 _ ?_
    exact kt
  obtain ⟨fs, hr, hrun, hended, hW, hsame⟩ := X12.leave (v := none) (fun _ => rfl)
  refine ⟨_, _, fin _ (pre15 _ ?_), hrun, hended, _, _, rfl, ?_, ⟨_, rfl⟩, hW, hsame.mono (by decide) (by decide)⟩
  · exact X12.returnOut hx Bd.returns (hb hby d29_53) hr
  · show Qputc_0_2 Z a1 p3 k1 u0 u1 h0 n0 _ T12.heap _
    rw [e12]
    exact ⟨rfl, N12, kc14, V12⟩

theorem d26_0 : decode jdk_52_method_14_code 0 = .ok (.iload_n 2, 1) := by decide +kernel
theorem d26_1 : decode jdk_52_method_14_code 1 = .ok (.invokestatic 107, 3) := by decide +kernel
theorem d26_4 : decode jdk_52_method_14_code 4 = .ok (.astore_n 3, 1) := by decide +kernel
theorem d26_5 : decode jdk_52_method_14_code 5 = .ok (.iconst 0, 1) := by decide +kernel
theorem d26_6 : decode jdk_52_method_14_code 6 = .ok (.istore 4, 2) := by decide +kernel
theorem d26_8 : decode jdk_52_method_14_code 8 = .ok (.iload 4, 2) := by decide +kernel
theorem d26_10 : decode jdk_52_method_14_code 10 = .ok (.iload_n 2, 1) := by decide +kernel
theorem d26_11 : decode jdk_52_method_14_code 11 = .ok (.if_icmp .ge 21, 3) := by decide +kernel
theorem d26_14 : decode jdk_52_method_14_code 14 = .ok (.aload_n 3, 1) := by decide +kernel
theorem d26_15 : decode jdk_52_method_14_code 15 = .ok (.iload 4, 2) := by decide +kernel
theorem d26_17 : decode jdk_52_method_14_code 17 = .ok (.aload_n 0, 1) := by decide +kernel
theorem d26_18 : decode jdk_52_method_14_code 18 = .ok (.iload_n 1, 1) := by decide +kernel
theorem d26_19 : decode jdk_52_method_14_code 19 = .ok (.caload, 1) := by decide +kernel
theorem d26_20 : decode jdk_52_method_14_code 20 = .ok (.invokestatic 111, 3) := by decide +kernel
theorem d26_23 : decode jdk_52_method_14_code 23 = .ok (.iinc 1 1, 3) := by decide +kernel
theorem d26_26 : decode jdk_52_method_14_code 26 = .ok (.iinc 4 1, 3) := by decide +kernel
theorem d26_29 : decode jdk_52_method_14_code 29 = .ok (.goto (-21), 3) := by decide +kernel
theorem d26_32 : decode jdk_52_method_14_code 32 = .ok (.aload_n 3, 1) := by decide +kernel
theorem d26_33 : decode jdk_52_method_14_code 33 = .ok (.areturn, 1) := by decide +kernel
theorem pn_26 : plainName "java/lang/StringUTF16" = true := by first | (simp [plainName, overriddenIn]; done) | decide +kernel
theorem pd_2 : parseMethodDescriptor "(I)[B" = some ⟨[.int], some (.array .byte)⟩ := by decide +kernel
theorem pd_3 : parseMethodDescriptor "([BII)V" = some ⟨[(.array .byte), .int, .int], none⟩ := by decide +kernel
theorem ef_toB_1 (m : MethodId) (x0 : Addr) : entryFrame m #[(.ref x0), (.int 0), (.int 1)] 5 = mkF m 0 #[.val (.ref x0), .val (.int 0), .val (.int 1), .unset, .unset] [] := by first | (simp [entryFrame, mkF, argsToLocals, Value.category]; done) | rfl
def QtoB_1 (Z : State) (a1 : Addr) (kc : ClassId) (c0 : Int32) (h0 : Heap) (n0 : Nat) (v : Option Value) (h : Heap) (L : List Loc) : Prop := ∃ b : Addr, ∃ kb : ClassId, v = (some (.ref b)) ∧ Fr n0 L ∧ Keep h0 h [] ∧ h0.size ≤ b ∧ Arv Z h b kb .byte (2 : Int32) [(.int (nar .byte ((c0 >>> ((0 : Int32) &&& 31)).toInt8.toInt32))), (.int (nar .byte ((c0 >>> ((8 : Int32) &&& 31)).toInt8.toInt32)))] (.int 0)
set_option maxRecDepth 65536 in
set_option maxHeartbeats 40000000 in
theorem rmtoB_1 (l : Launch) (Z : State) (a0 : Array Value) (hw : ∀ d ∈ tables_1, d.before a0 Z = true) (ws : List Jvm.Cond) (a1 : Addr) (kc : ClassId) (c0 : Int32) (h0 : Heap) (n0 : Nat) (Z0 : n0 ≤ h0.size) (O0 : Old Z n0 h0) (qU : (own_SU Z)) (VC : Arv Z h0 a1 kc .char (1 : Int32) [(.int c0)] (.int 0)) :
    MetFree l own_m30 (head1 (Jvm.Cond.code own_m30 jdk_52_method_14_code 5 (some (.array .byte)) :: ws) (own_r 2 1 2 24)) (fun a U => a = #[(.ref a1), (.int 0), (.int 1)] ∧ Z.Warmed39 U.vm ∧ U.heap = h0) (fun _ _ _ _ _ => True) (fun _ U o U' => ∃ v L, o = .returned v ∧ QtoB_1 Z a1 kc c0 h0 n0 v U'.heap L ∧ FrameEnd U o U' L (own_r 2 1 2 24).cells (own_r 2 1 2 24).slots) := by
  refine MetFree.of_bodySF (plainFor_of_name pn_26) hisR ?_
  intro p e s m args below meth c s₁ Bd hml0 hP hK
  obtain ⟨rfl, hZ, hh⟩ := hP
  have hx := Bd.exec
  have hby := Bd.bytes
  have hml : c.maxLocals = 5 := hml0
  have hown0 := findClass_of_methodNamed Bd.named
  have hown : s.vm.findClass "java/lang/StringUTF16" = some m.cls := hown0
  have hnm := (name_of_methodNamed Bd.named Bd.method).1
  have X0 : Stand p l e (own_r 2 1 2 24) s m #[(.ref a1), (.int 0), (.int 1)] below meth c s₁ [] 0 0 := Stand.of_body Bd
  have e0 : s₁.heap = h0 := by rw [← hh, Bd.state]; rfl
  have N0 := Fr.nil n0
  obtain ⟨S0, hS0⟩ : ∃ z, z = s₁.setTop (entryFrame m #[(.ref a1), (.int 0), (.int 1)] 5) := ⟨_, rfl⟩
  have pre0 : own_Go p e below S0 (s₁.setTop (mkF m 0 #[.val (.ref a1), .val (.int 0), .val (.int 1), .unset, .unset] [])) := fun t k => by rw [hS0]; exact castTop (ef_toB_1 m a1) k
  have fin : ∀ t, Steps p.tables e below S0 t → Steps p.tables e below (s₁.setTop (entryFrame m #[(.ref a1), (.int 0), (.int 1)] 5)) t := fun t k => by rw [hS0] at k; exact k
  have kc0 : Keep h0 h0 [] := Keep.refl _ _
  have pre1 : own_Go p e below S0 (s₁.setTop (mkF m 1 #[.val (.ref a1), .val (.int 0), .val (.int 1), .unset, .unset] [(.int 1)])) := by
    intro t kt
    refine pre0 t ?_
    refine XS.iloadN X0.here hx rfl (hb hby d26_0) rfl ?_
    exact kt
  obtain ⟨_, _, ⟨T2, L2, k2, n2⟩, -, X2, ⟨Lc2, hQ2, l2, y2, z2⟩, st2⟩ := Jvm.LawKit.callS X0 hx (y := own_m27) hown (mvT hZ (hw _ (own_w 122 rfl))) (mvT hZ (hw _ (own_w 123 rfl))) (mvT hZ (hw _ (own_w 26 rfl))) (mvT hZ (hw _ (own_w 124 rfl))) (by decide) (backOf (W := 0) (rmnfor_1 l Z a0 hw []  h0 n0 Z0 ) hZ (hw _ (own_w 124 rfl)) (hw _ (own_w 26 rfl)) (by decide) (by decide)) (g := (mkF m 1 #[.val (.ref a1), .val (.int 0), .val (.int 1), .unset, .unset] [(.int 1)])) rfl (by rw [hml]; rfl) (argsL := [(.int 1)]) (rest := []) (lenOf pd_2 rfl) rfl (by show 2 * 0 + _ ≤ _; exact Nat.le_of_eq rfl) (hb hby d26_1) (fun _ _ => ⟨rfl, e0, (by decide : 0 + 1 ≤ _), (by decide : 0 + 2 ≤ _)⟩)
  dsimp only [Pt.U, Pt.locs, Pt.cells, Pt.slots] at X2 l2 y2 z2 st2 hQ2
  subst l2 y2 z2
  obtain ⟨b3, kb4, rfl, Nq2, K2, g5, g6⟩ := hQ2
  have N2 := Fr.app N0 Nq2
  have ne7 : a1 ≠ b3 := Nat.ne_of_lt (Nat.lt_of_lt_of_le VC.lt g5)
  have ge8 : n0 ≤ b3 := Nat.le_trans Z0 g5
  have sz9 : h0.size ≤ b3 := Nat.le_trans kc0.1 g5
  have zs10 : n0 ≤ T2.heap.size := Nat.le_trans Z0 K2.1
  have kc11 : Keep h0 T2.heap [] := kc0.trans K2 all0
  have pre12 : own_Go p e below S0 (T2.setTop (mkF m 19 #[.val (.ref a1), .val (.int 0), .val (.int 1), .val (.ref b3), .val (.int 0)] [(.int 0), (.ref a1), (.int 0), (.ref b3)])) := by
    intro t kt
    refine pre1 t ?_
    refine st2 _ ?_
    show Steps p.tables e below (T2.setTop (mkF m 4 #[.val (.ref a1), .val (.int 0), .val (.int 1), .unset, .unset] [(.ref b3)])) _
    refine XS.astoreN X2.here hx rfl (hb hby d26_4) rfl rfl (l' := #[.val (.ref a1), .val (.int 0), .val (.int 1), .val (.ref b3), .unset]) rfl ?_
    refine XS.iconst X2.here hx rfl (hb hby d26_5) ?_
    refine XS.istore X2.here hx rfl (hb hby d26_6) rfl (l' := #[.val (.ref a1), .val (.int 0), .val (.int 1), .val (.ref b3), .val (.int 0)]) rfl ?_
    refine XS.iload X2.here hx rfl (hb hby d26_8) rfl ?_
    refine XS.iloadN X2.here hx rfl (hb hby d26_10) rfl ?_
    show Steps p.tables e below (T2.setTop (mkF m 11 #[.val (.ref a1), .val (.int 0), .val (.int 1), .val (.ref b3), .val (.int 0)] [(.int 1), (.int 0)])) _
    refine XS.icmpNo X2.here hx rfl (hb hby d26_11) rfl (tlt (by decide : (0 : Int32) < (1 : Int32))).2.1 ?_
    refine XS.aloadN X2.here hx rfl (hb hby d26_14) rfl rfl ?_
    refine XS.iload X2.here hx rfl (hb hby d26_15) rfl ?_
    refine XS.aloadN X2.here hx rfl (hb hby d26_17) rfl rfl ?_
    refine XS.iloadN X2.here hx rfl (hb hby d26_18) rfl ?_
    exact kt
  have f13 : Arv Z T2.heap a1 kc .char (1 : Int32) [(.int c0)] (.int 0) := (VC.keep K2 nin0)
  obtain ⟨cl14, Ar14, -, Sz14, -, Hs14, -⟩ := id f13
  have hin14 : ¬ ((0 : Int32) < 0 ∨ cl14.slots.size ≤ ((0 : Int32)).toNatClampNeg) := inb_of Sz14 ⟨by decide, by decide⟩
  have pre15 : own_Go p e below S0 (T2.setTop (mkF m 20 #[.val (.ref a1), .val (.int 0), .val (.int 1), .val (.ref b3), .val (.int 0)] [(.int c0), (.int 0), (.ref b3)])) := by
    intro t kt
    refine pre12 t ?_
    refine X2.caload hx (j := (0 : Int32)) (v := (.int c0)) Ar14.1 (State.isArrayOf_alike hZ.alike Ar14.2.1) Ar14.2.2 hin14 (Hs14.at hin14 rfl) (g := (mkF m 19 #[.val (.ref a1), .val (.int 0), .val (.int 1), .val (.ref b3), .val (.int 0)] [(.int 0), (.ref a1), (.int 0), (.ref b3)])) rfl rfl (hb hby d26_19) _ ?_
    exact kt
  have f16 : Old Z n0 T2.heap := (O0.keep K2 all0)
  obtain ⟨_, _, ⟨T17, L17, k17, n17⟩, -, X17, ⟨Lc17, hQ17, l17, y17, z17⟩, st17⟩ := Jvm.LawKit.callS X2 hx (y := own_m29) hown (mvT hZ (hw _ (own_w 129 rfl))) (mvT hZ (hw _ (own_w 130 rfl))) (mvT hZ (hw _ (own_w 26 rfl))) (mvT hZ (hw _ (own_w 131 rfl))) (by decide) (backOf (W := 0) (rmputc_0_2 l Z a0 hw [] b3 c0 kb4 (.int 0) (.int 0) T2.heap n0 zs10 f16 qU ge8 g6) hZ (hw _ (own_w 131 rfl)) (hw _ (own_w 26 rfl)) (by decide) (by decide)) (g := (mkF m 20 #[.val (.ref a1), .val (.int 0), .val (.int 1), .val (.ref b3), .val (.int 0)] [(.int c0), (.int 0), (.ref b3)])) rfl (by rw [hml]; rfl) (argsL := [(.ref b3), (.int 0), (.int c0)]) (rest := []) (lenOf pd_3 rfl) rfl (by show 2 * 0 + _ ≤ _; exact Nat.le_of_eq rfl) (hb hby d26_20) (fun _ _ => ⟨rfl, rfl, (by decide : 1 + 0 ≤ _), (by decide : 2 + 0 ≤ _)⟩)
  dsimp only [Pt.U, Pt.locs, Pt.cells, Pt.slots] at X17 l17 y17 z17 st17 hQ17
  subst l17 y17 z17
  obtain ⟨rfl, Nq17, K17, g18⟩ := hQ17
  have N17 := Fr.app N2 Nq17
  have zs19 : n0 ≤ T17.heap.size := Nat.le_trans zs10 K17.1
  have kc20 : Keep h0 T17.heap [] := kc11.trans K17 (allS (Or.inr sz9) all0)
  have pre21 : own_Go p e below S0 (T17.setTop (mkF m 33 #[.val (.ref a1), .val (.int 1), .val (.int 1), .val (.ref b3), .val (.int 1)] [(.ref b3)])) := by
    intro t kt
    refine pre15 t ?_
    refine st17 _ ?_
    show Steps p.tables e below (T17.setTop (mkF m 23 #[.val (.ref a1), .val (.int 0), .val (.int 1), .val (.ref b3), .val (.int 0)] [])) _
    refine XS.iinc X17.here hx rfl (hb hby d26_23) rfl (l' := #[.val (.ref a1), .val (.int 1), .val (.int 1), .val (.ref b3), .val (.int 0)]) rfl ?_
    refine XS.iinc X17.here hx rfl (hb hby d26_26) rfl (l' := #[.val (.ref a1), .val (.int 1), .val (.int 1), .val (.ref b3), .val (.int 1)]) rfl ?_
    refine XS.goto X17.here hx rfl (pc0 := 29) (pc' := 8) rfl (hb hby d26_29) (by decide) (by decide) ?_
    refine XS.iload X17.here hx rfl (hb hby d26_8) rfl ?_
    refine XS.iloadN X17.here hx rfl (hb hby d26_10) rfl ?_
    show Steps p.tables e below (T17.setTop (mkF m 11 #[.val (.ref a1), .val (.int 1), .val (.int 1), .val (.ref b3), .val (.int 1)] [(.int 1), (.int 1)])) _
    refine XS.icmpYes X17.here hx rfl (pc0 := 11) (pc' := 32) rfl (hb hby d26_11) rfl (flt (by decide : ¬ ((1 : Int32) < (1 : Int32)))).2.1 (by decide) (by decide) ?_
    refine XS.aloadN X17.here hx rfl (hb hby d26_32) rfl rfl ?_
    exact kt
  obtain ⟨fs, hr, hrun, hended, hW, hsame⟩ := X17.leave (v := some (.ref b3)) (fun h => by rw [Bd.returns] at h; cases h)
  refine ⟨_, _, fin _ (pre21 _ ?_), hrun, hended, _, _, rfl, ?_, ⟨_, rfl⟩, hW, hsame.mono (by decide) (by decide)⟩
  · jvm_step X17.here [X17.here.top, hx, (hb hby d26_33), X17.method', Bd.returns, Value.isRef, FieldType.isReference]
    first | (intro acts; rw [hr _ acts rfl rfl rfl]) | rw [hr _ _ rfl rfl rfl]
    exact Steps.refl _
  · show QtoB_1 Z a1 kc c0 h0 n0 _ T17.heap _
    exact ⟨b3, kb4, rfl, N17, kc20, sz9, g18⟩

theorem d30_0 : decode jdk_52_method_5_code 0 = .ok (.getstatic 44, 3) := by decide +kernel
theorem d30_3 : decode jdk_52_method_5_code 3 = .ok (.ifCond .ne 25, 3) := by decide +kernel
theorem d30_28 : decode jdk_52_method_5_code 28 = .ok (.iload_n 1, 1) := by decide +kernel
theorem d30_29 : decode jdk_52_method_5_code 29 = .ok (.iconst 1, 1) := by decide +kernel
theorem d30_30 : decode jdk_52_method_5_code 30 = .ok (.ishl, 1) := by decide +kernel
theorem d30_31 : decode jdk_52_method_5_code 31 = .ok (.istore_n 1, 1) := by decide +kernel
theorem d30_32 : decode jdk_52_method_5_code 32 = .ok (.aload_n 0, 1) := by decide +kernel
theorem d30_33 : decode jdk_52_method_5_code 33 = .ok (.iload_n 1, 1) := by decide +kernel
theorem d30_34 : decode jdk_52_method_5_code 34 = .ok (.iinc 1 1, 3) := by decide +kernel
theorem d30_37 : decode jdk_52_method_5_code 37 = .ok (.baload, 1) := by decide +kernel
theorem d30_38 : decode jdk_52_method_5_code 38 = .ok (.sipush 255, 3) := by decide +kernel
theorem d30_41 : decode jdk_52_method_5_code 41 = .ok (.iand, 1) := by decide +kernel
theorem d30_42 : decode jdk_52_method_5_code 42 = .ok (.getstatic 59, 3) := by decide +kernel
theorem d30_45 : decode jdk_52_method_5_code 45 = .ok (.ishl, 1) := by decide +kernel
theorem d30_46 : decode jdk_52_method_5_code 46 = .ok (.aload_n 0, 1) := by decide +kernel
theorem d30_47 : decode jdk_52_method_5_code 47 = .ok (.iload_n 1, 1) := by decide +kernel
theorem d30_48 : decode jdk_52_method_5_code 48 = .ok (.baload, 1) := by decide +kernel
theorem d30_49 : decode jdk_52_method_5_code 49 = .ok (.sipush 255, 3) := by decide +kernel
theorem d30_52 : decode jdk_52_method_5_code 52 = .ok (.iand, 1) := by decide +kernel
theorem d30_53 : decode jdk_52_method_5_code 53 = .ok (.getstatic 63, 3) := by decide +kernel
theorem d30_56 : decode jdk_52_method_5_code 56 = .ok (.ishl, 1) := by decide +kernel
theorem d30_57 : decode jdk_52_method_5_code 57 = .ok (.ior, 1) := by decide +kernel
theorem d30_58 : decode jdk_52_method_5_code 58 = .ok (.i2c, 1) := by decide +kernel
theorem d30_59 : decode jdk_52_method_5_code 59 = .ok (.ireturn, 1) := by decide +kernel
theorem pn_30 : plainName "java/lang/StringUTF16" = true := by first | (simp [plainName, overriddenIn]; done) | decide +kernel
theorem ef_getc (m : MethodId) (x0 : Addr) (x1 : Int32) : entryFrame m #[(.ref x0), (.int x1)] 2 = mkF m 0 #[.val (.ref x0), .val (.int x1)] [] := by first | (simp [entryFrame, mkF, argsToLocals, Value.category]; done) | rfl
def Qgetc (Z : State) (a1 : Addr) (p2 : Int32) (k1 : ClassId) (z1 : Int32) (vs : List Value) (d1 : Value) (b0 : Int32) (b1 : Int32) (m0 : Nat) (m1 : Nat) (h0 : Heap) (n0 : Nat) (v : Option Value) (h : Heap) (L : List Loc) : Prop := v = (some (.int (own_gc b0 b1))) ∧ Fr n0 L ∧ h = h0
set_option maxRecDepth 65536 in
set_option maxHeartbeats 40000000 in
theorem rmgetc (l : Launch) (Z : State) (a0 : Array Value) (hw : ∀ d ∈ tables_1, d.before a0 Z = true) (ws : List Jvm.Cond) (a1 : Addr) (p2 : Int32) (k1 : ClassId) (z1 : Int32) (vs : List Value) (d1 : Value) (b0 : Int32) (b1 : Int32) (m0 : Nat) (m1 : Nat) (h0 : Heap) (n0 : Nat) (Z0 : n0 ≤ h0.size) (O0 : Old Z n0 h0) (qU : (own_SU Z)) (V1 : Arv Z h0 a1 k1 .byte z1 vs d1) (g0a : (¬ (p2 <<< ((1 : Int32) &&& 31)) < (0 : Int32))) (g0b : ((p2 <<< ((1 : Int32) &&& 31)) < z1)) (hm0 : ((p2 <<< ((1 : Int32) &&& 31)).toNatClampNeg = m0)) (hb0 : (vs.getD m0 d1 = .int b0)) (g1a : (¬ ((p2 <<< ((1 : Int32) &&& 31)) + (1 : Int32)) < (0 : Int32))) (g1b : (((p2 <<< ((1 : Int32) &&& 31)) + (1 : Int32)) < z1)) (hm1 : (((p2 <<< ((1 : Int32) &&& 31)) + (1 : Int32)).toNatClampNeg = m1)) (hb1 : (vs.getD m1 d1 = .int b1)) :
    MetFree l own_m25 (head1 (Jvm.Cond.code own_m25 jdk_52_method_5_code 2 (some .char) :: ws) (own_r 0 0 0 0)) (fun a U => a = #[(.ref a1), (.int p2)] ∧ Z.Warmed39 U.vm ∧ U.heap = h0) (fun _ _ _ _ _ => True) (fun _ U o U' => ∃ v L, o = .returned v ∧ Qgetc Z a1 p2 k1 z1 vs d1 b0 b1 m0 m1 h0 n0 v U'.heap L ∧ FrameEnd U o U' L (own_r 0 0 0 0).cells (own_r 0 0 0 0).slots) := by
  refine MetFree.of_bodySF (plainFor_of_name pn_30) hisR ?_
  intro p e s m args below meth c s₁ Bd hml0 hP hK
  obtain ⟨rfl, hZ, hh⟩ := hP
  have hx := Bd.exec
  have hby := Bd.bytes
  have hml : c.maxLocals = 2 := hml0
  have hown0 := findClass_of_methodNamed Bd.named
  have hown : s.vm.findClass "java/lang/StringUTF16" = some m.cls := hown0
  have hnm := (name_of_methodNamed Bd.named Bd.method).1
  have X0 : Stand p l e (own_r 0 0 0 0) s m #[(.ref a1), (.int p2)] below meth c s₁ [] 0 0 := Stand.of_body Bd
  have e0 : s₁.heap = h0 := by rw [← hh, Bd.state]; rfl
  have N0 := Fr.nil n0
  obtain ⟨S0, hS0⟩ : ∃ z, z = s₁.setTop (entryFrame m #[(.ref a1), (.int p2)] 2) := ⟨_, rfl⟩
  have pre0 : own_Go p e below S0 (s₁.setTop (mkF m 0 #[.val (.ref a1), .val (.int p2)] [])) := fun t k => by rw [hS0]; exact castTop (ef_getc m a1 p2) k
  have fin : ∀ t, Steps p.tables e below S0 t → Steps p.tables e below (s₁.setTop (entryFrame m #[(.ref a1), (.int p2)] 2)) t := fun t k => by rw [hS0] at k; exact k
  obtain ⟨T1, X1, e1, st1⟩ := getS2 X0 hx hZ hown (host := "") (Or.inl (hw _ (own_w 132 rfl))) Via.refl e0 (qU.1.ext O0.2) (g := (mkF m 0 #[.val (.ref a1), .val (.int p2)] [])) rfl (hb hby d30_0)
  have pre2 : own_Go p e below S0 (T1.setTop (mkF m 37 #[.val (.ref a1), .val (.int ((p2 <<< ((1 : Int32) &&& 31)) + (1 : Int32)))] [(.int (p2 <<< ((1 : Int32) &&& 31))), (.ref a1)])) := by
    intro t kt
    refine pre0 t ?_
    refine st1 _ ?_
    refine XS.ifYes X1.here hx rfl (pc0 := 3) (pc' := 28) rfl (hb hby d30_3) rfl ((if0 _ _).trans (feq (by decide : ¬ ((1 : Int32) = (0 : Int32)))).2) (by decide) (by decide) ?_
    refine XS.iloadN X1.here hx rfl (hb hby d30_28) rfl ?_
    refine XS.iconst X1.here hx rfl (hb hby d30_29) ?_
    refine XS.ishl X1.here hx rfl (hb hby d30_30) rfl ?_
    refine XS.istoreN X1.here hx rfl (hb hby d30_31) rfl (l' := #[.val (.ref a1), .val (.int (p2 <<< ((1 : Int32) &&& 31)))]) rfl ?_
    show Steps p.tables e below (T1.setTop (mkF m 32 #[.val (.ref a1), .val (.int (p2 <<< ((1 : Int32) &&& 31)))] [])) _
    refine XS.aloadN X1.here hx rfl (hb hby d30_32) rfl rfl ?_
    refine XS.iloadN X1.here hx rfl (hb hby d30_33) rfl ?_
    refine XS.iinc X1.here hx rfl (hb hby d30_34) rfl (l' := #[.val (.ref a1), .val (.int ((p2 <<< ((1 : Int32) &&& 31)) + (1 : Int32)))]) rfl ?_
    exact kt
  obtain ⟨cl3, Ar3, -, Sz3, -, Hs3, -⟩ := id V1
  have hin3 : ¬ ((p2 <<< ((1 : Int32) &&& 31)) < 0 ∨ cl3.slots.size ≤ ((p2 <<< ((1 : Int32) &&& 31))).toNatClampNeg) := inb_of Sz3 ⟨g0a, g0b⟩
  have pre4 : own_Go p e below S0 (T1.setTop (mkF m 42 #[.val (.ref a1), .val (.int ((p2 <<< ((1 : Int32) &&& 31)) + (1 : Int32)))] [(.int (b0 &&& (255 : Int32)))])) := by
    intro t kt
    refine pre2 t ?_
    refine X1.baloadBytes hx (j := (p2 <<< ((1 : Int32) &&& 31))) (v := (.int b0)) (by rw [e1]; exact Ar3.1) (State.isArrayOf_alike hZ.alike Ar3.2.1) Ar3.2.2 hin3 (Hs3.at hin3 (by rw [hm0]; exact hb0)) (g := (mkF m 37 #[.val (.ref a1), .val (.int ((p2 <<< ((1 : Int32) &&& 31)) + (1 : Int32)))] [(.int (p2 <<< ((1 : Int32) &&& 31))), (.ref a1)])) rfl rfl (hb hby d30_37) _ ?_
    refine XS.sipush X1.here hx rfl (hb hby d30_38) ?_
    refine XS.iand X1.here hx rfl (hb hby d30_41) rfl ?_
    exact kt
  obtain ⟨T5, X5, e5, st5⟩ := getS2 X1 hx hZ hown (host := "") (Or.inl (hw _ (own_w 133 rfl))) Via.refl e1 (qU.2.1.ext O0.2) (g := (mkF m 42 #[.val (.ref a1), .val (.int ((p2 <<< ((1 : Int32) &&& 31)) + (1 : Int32)))] [(.int (b0 &&& (255 : Int32)))])) rfl (hb hby d30_42)
  have pre6 : own_Go p e below S0 (T5.setTop (mkF m 48 #[.val (.ref a1), .val (.int ((p2 <<< ((1 : Int32) &&& 31)) + (1 : Int32)))] [(.int ((p2 <<< ((1 : Int32) &&& 31)) + (1 : Int32))), (.ref a1), (.int ((b0 &&& (255 : Int32)) <<< ((0 : Int32) &&& 31)))])) := by
    intro t kt
    refine pre4 t ?_
    refine st5 _ ?_
    refine XS.ishl X5.here hx rfl (hb hby d30_45) rfl ?_
    refine XS.aloadN X5.here hx rfl (hb hby d30_46) rfl rfl ?_
    refine XS.iloadN X5.here hx rfl (hb hby d30_47) rfl ?_
    exact kt
  obtain ⟨cl7, Ar7, -, Sz7, -, Hs7, -⟩ := id V1
  have hin7 : ¬ (((p2 <<< ((1 : Int32) &&& 31)) + (1 : Int32)) < 0 ∨ cl7.slots.size ≤ (((p2 <<< ((1 : Int32) &&& 31)) + (1 : Int32))).toNatClampNeg) := inb_of Sz7 ⟨g1a, g1b⟩
  have pre8 : own_Go p e below S0 (T5.setTop (mkF m 53 #[.val (.ref a1), .val (.int ((p2 <<< ((1 : Int32) &&& 31)) + (1 : Int32)))] [(.int (b1 &&& (255 : Int32))), (.int ((b0 &&& (255 : Int32)) <<< ((0 : Int32) &&& 31)))])) := by
    intro t kt
    refine pre6 t ?_
    refine X5.baloadBytes hx (j := ((p2 <<< ((1 : Int32) &&& 31)) + (1 : Int32))) (v := (.int b1)) (by rw [e5]; exact Ar7.1) (State.isArrayOf_alike hZ.alike Ar7.2.1) Ar7.2.2 hin7 (Hs7.at hin7 (by rw [hm1]; exact hb1)) (g := (mkF m 48 #[.val (.ref a1), .val (.int ((p2 <<< ((1 : Int32) &&& 31)) + (1 : Int32)))] [(.int ((p2 <<< ((1 : Int32) &&& 31)) + (1 : Int32))), (.ref a1), (.int ((b0 &&& (255 : Int32)) <<< ((0 : Int32) &&& 31)))])) rfl rfl (hb hby d30_48) _ ?_
    refine XS.sipush X5.here hx rfl (hb hby d30_49) ?_
    refine XS.iand X5.here hx rfl (hb hby d30_52) rfl ?_
    exact kt
  obtain ⟨T9, X9, e9, st9⟩ := getS2 X5 hx hZ hown (host := "") (Or.inl (hw _ (own_w 134 rfl))) Via.refl e5 (qU.2.2.ext O0.2) (g := (mkF m 53 #[.val (.ref a1), .val (.int ((p2 <<< ((1 : Int32) &&& 31)) + (1 : Int32)))] [(.int (b1 &&& (255 : Int32))), (.int ((b0 &&& (255 : Int32)) <<< ((0 : Int32) &&& 31)))])) rfl (hb hby d30_53)
  have pre10 : own_Go p e below S0 (T9.setTop (mkF m 59 #[.val (.ref a1), .val (.int ((p2 <<< ((1 : Int32) &&& 31)) + (1 : Int32)))] [(.int ((((b0 &&& (255 : Int32)) <<< ((0 : Int32) &&& 31)) ||| ((b1 &&& (255 : Int32)) <<< ((8 : Int32) &&& 31))).toUInt32.toUInt16.toUInt32.toInt32))])) := by
    intro t kt
    refine pre8 t ?_
    refine st9 _ ?_
    refine XS.ishl X9.here hx rfl (hb hby d30_56) rfl ?_
    refine XS.ior X9.here hx rfl (hb hby d30_57) rfl ?_
    refine XS.i2c X9.here hx rfl (hb hby d30_58) rfl ?_
    exact kt
  obtain ⟨fs, hr, hrun, hended, hW, hsame⟩ := X9.leave (v := some (.int (nar .char ((((b0 &&& (255 : Int32)) <<< ((0 : Int32) &&& 31)) ||| ((b1 &&& (255 : Int32)) <<< ((8 : Int32) &&& 31))).toUInt32.toUInt16.toUInt32.toInt32)))) (fun h => by rw [Bd.returns] at h; cases h)
  refine ⟨_, _, fin _ (pre10 _ ?_), hrun, hended, _, _, rfl, ?_, ⟨_, rfl⟩, hW, hsame.mono (by decide) (by decide)⟩
  · exact retN X9 hx (t := .char) Bd.returns (by simp) (hb hby d30_59) hr
  · show Qgetc Z a1 p2 k1 z1 vs d1 b0 b1 m0 m1 h0 n0 _ T9.heap _
    rw [e9]
    exact ⟨rfl, N0, rfl⟩

theorem d5_0 : decode jdk_52_method_16_code 0 = .ok (.iload_n 2, 1) := by decide +kernel
theorem d5_1 : decode jdk_52_method_16_code 1 = .ok (.newarray .byte, 2) := by decide +kernel
theorem d5_3 : decode jdk_52_method_16_code 3 = .ok (.astore_n 3, 1) := by decide +kernel
theorem d5_4 : decode jdk_52_method_16_code 4 = .ok (.aload_n 0, 1) := by decide +kernel
theorem d5_5 : decode jdk_52_method_16_code 5 = .ok (.iload_n 1, 1) := by decide +kernel
theorem d5_6 : decode jdk_52_method_16_code 6 = .ok (.aload_n 3, 1) := by decide +kernel
theorem d5_7 : decode jdk_52_method_16_code 7 = .ok (.iconst 0, 1) := by decide +kernel
theorem d5_8 : decode jdk_52_method_16_code 8 = .ok (.iload_n 2, 1) := by decide +kernel
theorem d5_9 : decode jdk_52_method_16_code 9 = .ok (.invokestatic 115, 3) := by decide +kernel
theorem d5_12 : decode jdk_52_method_16_code 12 = .ok (.istore 4, 2) := by decide +kernel
theorem d5_14 : decode jdk_52_method_16_code 14 = .ok (.iload 4, 2) := by decide +kernel
theorem d5_16 : decode jdk_52_method_16_code 16 = .ok (.iload_n 2, 1) := by decide +kernel
theorem d5_17 : decode jdk_52_method_16_code 17 = .ok (.if_icmp .eq 40, 3) := by decide +kernel
theorem d5_20 : decode jdk_52_method_16_code 20 = .ok (.aload_n 0, 1) := by decide +kernel
theorem d5_21 : decode jdk_52_method_16_code 21 = .ok (.iload_n 1, 1) := by decide +kernel
theorem d5_22 : decode jdk_52_method_16_code 22 = .ok (.iload_n 2, 1) := by decide +kernel
theorem d5_23 : decode jdk_52_method_16_code 23 = .ok (.invokestatic 119, 3) := by decide +kernel
theorem d5_26 : decode jdk_52_method_16_code 26 = .ok (.astore 5, 2) := by decide +kernel
theorem d5_28 : decode jdk_52_method_16_code 28 = .ok (.aload 5, 2) := by decide +kernel
theorem d5_30 : decode jdk_52_method_16_code 30 = .ok (.iload 4, 2) := by decide +kernel
theorem d5_32 : decode jdk_52_method_16_code 32 = .ok (.invokestatic 71, 3) := by decide +kernel
theorem d5_35 : decode jdk_52_method_16_code 35 = .ok (.sipush 255, 3) := by decide +kernel
theorem d5_38 : decode jdk_52_method_16_code 38 = .ok (.if_icmp .gt 16, 3) := by decide +kernel
theorem d5_54 : decode jdk_52_method_16_code 54 = .ok (.aload 5, 2) := by decide +kernel
theorem d5_56 : decode jdk_52_method_16_code 56 = .ok (.areturn, 1) := by decide +kernel
theorem d5_57 : decode jdk_52_method_16_code 57 = .ok (.aload_n 3, 1) := by decide +kernel
theorem d5_58 : decode jdk_52_method_16_code 58 = .ok (.areturn, 1) := by decide +kernel
theorem pn_5 : plainName "java/lang/StringUTF16" = true := by first | (simp [plainName, overriddenIn]; done) | decide +kernel
theorem pd_4 : parseMethodDescriptor "([CI[BII)I" = some ⟨[(.array .char), .int, (.array .byte), .int, .int], some .int⟩ := by decide +kernel
theorem pd_5 : parseMethodDescriptor "([CII)[B" = some ⟨[(.array .char), .int, .int], some (.array .byte)⟩ := by decide +kernel
theorem pd_6 : parseMethodDescriptor "([BI)C" = some ⟨[(.array .byte), .int], some .char⟩ := by decide +kernel
theorem ef_cmp3_1 (m : MethodId) (x0 : Addr) : entryFrame m #[(.ref x0), (.int 0), (.int 1)] 6 = mkF m 0 #[.val (.ref x0), .val (.int 0), .val (.int 1), .unset, .unset, .unset] [] := by first | (simp [entryFrame, mkF, argsToLocals, Value.category]; done) | rfl
def Qcmp3_1 (Z : State) (a1 : Addr) (kc : ClassId) (c0 : Int32) (h0 : Heap) (n0 : Nat) (v : Option Value) (h : Heap) (L : List Loc) : Prop := ∃ b : Addr, ∃ kb : ClassId, v = (some (.ref b)) ∧ Fr n0 L ∧ Keep h0 h [] ∧ h0.size ≤ b ∧ ((own_Lat [c0] ∧ Arv Z h b kb .byte (1 : Int32) [(.int (nar .byte (c0.toInt8.toInt32)))] (.int 0)) ∨ (own_Chr [c0] ∧ Arv Z h b kb .byte (2 : Int32) [(.int (nar .byte ((c0 >>> ((0 : Int32) &&& 31)).toInt8.toInt32))), (.int (nar .byte ((c0 >>> ((8 : Int32) &&& 31)).toInt8.toInt32)))] (.int 0)))
set_option maxRecDepth 65536 in
set_option maxHeartbeats 40000000 in
theorem rmcmp3_1 (l : Launch) (Z : State) (a0 : Array Value) (hw : ∀ d ∈ tables_1, d.before a0 Z = true) (ws : List Jvm.Cond) (a1 : Addr) (kc : ClassId) (c0 : Int32) (h0 : Heap) (n0 : Nat) (Z0 : n0 ≤ h0.size) (O0 : Old Z n0 h0) (qU : (own_SU Z)) (VC : Arv Z h0 a1 kc .char (1 : Int32) [(.int c0)] (.int 0)) :
    MetFree l own_m23 (head1 (Jvm.Cond.code own_m23 jdk_52_method_16_code 6 (some (.array .byte)) :: ws) (own_r 3 2 3 40)) (fun a U => a = #[(.ref a1), (.int 0), (.int 1)] ∧ Z.Warmed39 U.vm ∧ U.heap = h0) (fun _ _ _ _ _ => True) (fun _ U o U' => ∃ v L, o = .returned v ∧ Qcmp3_1 Z a1 kc c0 h0 n0 v U'.heap L ∧ FrameEnd U o U' L (own_r 3 2 3 40).cells (own_r 3 2 3 40).slots) := by
  refine MetFree.of_bodySF (plainFor_of_name pn_5) hisR ?_
  intro p e s m args below meth c s₁ Bd hml0 hP hK
  obtain ⟨rfl, hZ, hh⟩ := hP
  have hx := Bd.exec
  have hby := Bd.bytes
  have hml : c.maxLocals = 6 := hml0
  have hown0 := findClass_of_methodNamed Bd.named
  have hown : s.vm.findClass "java/lang/StringUTF16" = some m.cls := hown0
  have hnm := (name_of_methodNamed Bd.named Bd.method).1
  have X0 : Stand p l e (own_r 3 2 3 40) s m #[(.ref a1), (.int 0), (.int 1)] below meth c s₁ [] 0 0 := Stand.of_body Bd
  have e0 : s₁.heap = h0 := by rw [← hh, Bd.state]; rfl
  have N0 := Fr.nil n0
  obtain ⟨S0, hS0⟩ : ∃ z, z = s₁.setTop (entryFrame m #[(.ref a1), (.int 0), (.int 1)] 6) := ⟨_, rfl⟩
  have pre0 : own_Go p e below S0 (s₁.setTop (mkF m 0 #[.val (.ref a1), .val (.int 0), .val (.int 1), .unset, .unset, .unset] [])) := fun t k => by rw [hS0]; exact castTop (ef_cmp3_1 m a1) k
  have fin : ∀ t, Steps p.tables e below S0 t → Steps p.tables e below (s₁.setTop (entryFrame m #[(.ref a1), (.int 0), (.int 1)] 6)) t := fun t k => by rw [hS0] at k; exact k
  have kc0 : Keep h0 h0 [] := Keep.refl _ _
  have pre1 : own_Go p e below S0 (s₁.setTop (mkF m 1 #[.val (.ref a1), .val (.int 0), .val (.int 1), .unset, .unset, .unset] [(.int 1)])) := by
    intro t kt
    refine pre0 t ?_
    refine XS.iloadN X0.here hx rfl (hb hby d5_0) rfl ?_
    exact kt
  obtain ⟨T2, h2, k2, X2, e2, E2, A2, st2⟩ := newP X0 hx hZ (hw _ (own_w 28 rfl)) e0 (g := (mkF m 1 #[.val (.ref a1), .val (.int 0), .val (.int 1), .unset, .unset, .unset] [(.int 1)])) rfl (hb hby d5_1) rfl (by decide) (cap := 1) (by decide) (by decide) (by decide) (by decide)
  obtain ⟨b2, g2⟩ : ∃ z, z = h0.size := ⟨_, rfl⟩
  rw [← g2] at A2 st2
  have ne3 : a1 ≠ b2 := Nat.ne_of_lt (Nat.lt_of_lt_of_le VC.lt (Nat.le_of_eq g2.symm))
  have ge4 : n0 ≤ b2 := Nat.le_trans Z0 (Nat.le_of_eq g2.symm)
  have sz5 : h0.size ≤ b2 := Nat.le_trans kc0.1 (Nat.le_of_eq g2.symm)
  have zs6 : n0 ≤ h2.size := Nat.le_trans Z0 E2.1
  have kc7 : Keep h0 h2 [] := kc0.ext E2
  have V2 : Arv Z h2 b2 k2 .byte (1 : Int32) [(.int 0)] (.int 0) := (Arv.new A2 (by decide)).pad (pad_rep [] (.int 0) 1)
  have pre8 : own_Go p e below S0 (T2.setTop (mkF m 9 #[.val (.ref a1), .val (.int 0), .val (.int 1), .val (.ref b2), .unset, .unset] [(.int 1), (.int 0), (.ref b2), (.int 0), (.ref a1)])) := by
    intro t kt
    refine pre1 t ?_
    refine st2 _ ?_
    refine XS.astoreN X2.here hx rfl (hb hby d5_3) rfl rfl (l' := #[.val (.ref a1), .val (.int 0), .val (.int 1), .val (.ref b2), .unset, .unset]) rfl ?_
    refine XS.aloadN X2.here hx rfl (hb hby d5_4) rfl rfl ?_
    refine XS.iloadN X2.here hx rfl (hb hby d5_5) rfl ?_
    refine XS.aloadN X2.here hx rfl (hb hby d5_6) rfl rfl ?_
    refine XS.iconst X2.here hx rfl (hb hby d5_7) ?_
    show Steps p.tables e below (T2.setTop (mkF m 8 #[.val (.ref a1), .val (.int 0), .val (.int 1), .val (.ref b2), .unset, .unset] [(.int 0), (.ref b2), (.int 0), (.ref a1)])) _
    refine XS.iloadN X2.here hx rfl (hb hby d5_8) rfl ?_
    exact kt
  have f9 : Arv Z h2 a1 kc .char (1 : Int32) [(.int c0)] (.int 0) := (VC.ext E2)
  obtain ⟨_, _, ⟨T10, L10, k10, n10⟩, -, X10, ⟨Lc10, hQ10, l10, y10, z10⟩, st10⟩ := Jvm.LawKit.callS X2 hx (y := own_m24) hown (mvT hZ (hw _ (own_w 29 rfl))) (mvT hZ (hw _ (own_w 30 rfl))) (mvT hZ (hw _ (own_w 26 rfl))) (mvT hZ (hw _ (own_w 31 rfl))) (by decide) (backOf (W := 0) (rmcmp5_1 l Z a0 hw [] a1 b2 kc k2 c0 h2 n0 zs6 f9 ge4 V2 ne3) hZ (hw _ (own_w 31 rfl)) (hw _ (own_w 26 rfl)) (by decide) (by decide)) (g := (mkF m 9 #[.val (.ref a1), .val (.int 0), .val (.int 1), .val (.ref b2), .unset, .unset] [(.int 1), (.int 0), (.ref b2), (.int 0), (.ref a1)])) rfl (by rw [hml]; rfl) (argsL := [(.ref a1), (.int 0), (.ref b2), (.int 0), (.int 1)]) (rest := []) (lenOf pd_4 rfl) rfl (by show 2 * 0 + _ ≤ _; exact Nat.le_of_eq rfl) (hb hby d5_9) (fun _ _ => ⟨rfl, e2, (by decide : 1 + 0 ≤ _), (by decide : 1 + 0 ≤ _)⟩)
  dsimp only [Pt.U, Pt.locs, Pt.cells, Pt.slots] at X10 l10 y10 z10 st10 hQ10
  subst l10 y10 z10
  obtain ⟨r11, rfl, Nq10, K10, g12⟩ := hQ10
  have N10 := Fr.app N0 Nq10
  have zs13 : n0 ≤ T10.heap.size := Nat.le_trans zs6 K10.1
  have kc14 : Keep h0 T10.heap [] := kc7.trans K10 (allS (Or.inr sz5) all0)
  have pre15 : own_Go p e below S0 (T10.setTop (mkF m 12 #[.val (.ref a1), .val (.int 0), .val (.int 1), .val (.ref b2), .unset, .unset] [(.int r11)])) := by
    intro t kt
    refine pre8 t ?_
    refine st10 _ ?_
    show Steps p.tables e below (T10.setTop (mkF m 12 #[.val (.ref a1), .val (.int 0), .val (.int 1), .val (.ref b2), .unset, .unset] [(.int r11)])) _
    exact kt
  obtain ⟨hr, hl, hv⟩ | ⟨hr, hg⟩ := g12
  · have pre16 : own_Go p e below S0 (T10.setTop (mkF m 12 #[.val (.ref a1), .val (.int 0), .val (.int 1), .val (.ref b2), .unset, .unset] [(.int 1)])) := by
      intro t kt
      refine pre15 t ?_
      rw [hr]
      exact kt
    have pre17 : own_Go p e below S0 (T10.setTop (mkF m 58 #[.val (.ref a1), .val (.int 0), .val (.int 1), .val (.ref b2), .val (.int 1), .unset] [(.ref b2)])) := by
      intro t kt
      refine pre16 t ?_
      refine XS.istore X10.here hx rfl (hb hby d5_12) rfl (l' := #[.val (.ref a1), .val (.int 0), .val (.int 1), .val (.ref b2), .val (.int 1), .unset]) rfl ?_
      refine XS.iload X10.here hx rfl (hb hby d5_14) rfl ?_
      refine XS.iloadN X10.here hx rfl (hb hby d5_16) rfl ?_
      refine XS.icmpYes X10.here hx rfl (pc0 := 17) (pc' := 57) rfl (hb hby d5_17) rfl (teq (by decide : (1 : Int32) = (1 : Int32))).1 (by decide) (by decide) ?_
      refine XS.aloadN X10.here hx rfl (hb hby d5_57) rfl rfl ?_
      exact kt
    obtain ⟨fs, hr, hrun, hended, hW, hsame⟩ := X10.leave (v := some (.ref b2)) (fun h => by rw [Bd.returns] at h; cases h)
    refine ⟨_, _, fin _ (pre17 _ ?_), hrun, hended, _, _, rfl, ?_, ⟨_, rfl⟩, hW, hsame.mono (by decide) (by decide)⟩
    · jvm_step X10.here [X10.here.top, hx, (hb hby d5_58), X10.method', Bd.returns, Value.isRef, FieldType.isReference]
      first | (intro acts; rw [hr _ acts rfl rfl rfl]) | rw [hr _ _ rfl rfl rfl]
      exact Steps.refl _
    · show Qcmp3_1 Z a1 kc c0 h0 n0 _ T10.heap _
      exact ⟨b2, k2, rfl, N10, kc14, sz5, (Or.inl ⟨hl, hv⟩)⟩
  · have pre18 : own_Go p e below S0 (T10.setTop (mkF m 12 #[.val (.ref a1), .val (.int 0), .val (.int 1), .val (.ref b2), .unset, .unset] [(.int 0)])) := by
      intro t kt
      refine pre15 t ?_
      rw [hr]
      exact kt
    have pre19 : own_Go p e below S0 (T10.setTop (mkF m 23 #[.val (.ref a1), .val (.int 0), .val (.int 1), .val (.ref b2), .val (.int 0), .unset] [(.int 1), (.int 0), (.ref a1)])) := by
      intro t kt
      refine pre18 t ?_
      refine XS.istore X10.here hx rfl (hb hby d5_12) rfl (l' := #[.val (.ref a1), .val (.int 0), .val (.int 1), .val (.ref b2), .val (.int 0), .unset]) rfl ?_
      refine XS.iload X10.here hx rfl (hb hby d5_14) rfl ?_
      refine XS.iloadN X10.here hx rfl (hb hby d5_16) rfl ?_
      refine XS.icmpNo X10.here hx rfl (hb hby d5_17) rfl (feq (by decide : ¬ ((0 : Int32) = (1 : Int32)))).1 ?_
      refine XS.aloadN X10.here hx rfl (hb hby d5_20) rfl rfl ?_
      refine XS.iloadN X10.here hx rfl (hb hby d5_21) rfl ?_
      show Steps p.tables e below (T10.setTop (mkF m 22 #[.val (.ref a1), .val (.int 0), .val (.int 1), .val (.ref b2), .val (.int 0), .unset] [(.int 0), (.ref a1)])) _
      refine XS.iloadN X10.here hx rfl (hb hby d5_22) rfl ?_
      exact kt
    have f20 : Old Z n0 T10.heap := ((O0.ext E2).keep K10 (allS ge4 all0))
    have f21 : Arv Z T10.heap a1 kc .char (1 : Int32) [(.int c0)] (.int 0) := (f9.keep K10 (ninS ne3 nin0))
    obtain ⟨_, _, ⟨T22, L22, k22, n22⟩, -, X22, ⟨Lc22, hQ22, l22, y22, z22⟩, st22⟩ := Jvm.LawKit.callS X10 hx (y := own_m30) hown (mvT hZ (hw _ (own_w 119 rfl))) (mvT hZ (hw _ (own_w 120 rfl))) (mvT hZ (hw _ (own_w 26 rfl))) (mvT hZ (hw _ (own_w 121 rfl))) (by decide) (backOf (W := 0) (rmtoB_1 l Z a0 hw [] a1 kc c0 T10.heap n0 zs13 f20 qU f21) hZ (hw _ (own_w 121 rfl)) (hw _ (own_w 26 rfl)) (by decide) (by decide)) (g := (mkF m 23 #[.val (.ref a1), .val (.int 0), .val (.int 1), .val (.ref b2), .val (.int 0), .unset] [(.int 1), (.int 0), (.ref a1)])) rfl (by rw [hml]; rfl) (argsL := [(.ref a1), (.int 0), (.int 1)]) (rest := []) (lenOf pd_5 rfl) rfl (by show 2 * 0 + _ ≤ _; exact Nat.le_of_eq rfl) (hb hby d5_23) (fun _ _ => ⟨rfl, rfl, (by decide : 1 + 1 ≤ _), (by decide : 1 + 2 ≤ _)⟩)
    dsimp only [Pt.U, Pt.locs, Pt.cells, Pt.slots] at X22 l22 y22 z22 st22 hQ22
    subst l22 y22 z22
    obtain ⟨b23, kb24, rfl, Nq22, K22, g25, g26⟩ := hQ22
    have N22 := Fr.app N10 Nq22
    have ne27 : a1 ≠ b23 := Nat.ne_of_lt (Nat.lt_of_lt_of_le f21.lt g25)
    have ge28 : n0 ≤ b23 := Nat.le_trans zs13 g25
    have sz29 : h0.size ≤ b23 := Nat.le_trans kc14.1 g25
    have zs30 : n0 ≤ T22.heap.size := Nat.le_trans zs13 K22.1
    have kc31 : Keep h0 T22.heap [] := kc14.trans K22 all0
    have pre32 : own_Go p e below S0 (T22.setTop (mkF m 32 #[.val (.ref a1), .val (.int 0), .val (.int 1), .val (.ref b2), .val (.int 0), .val (.ref b23)] [(.int 0), (.ref b23)])) := by
      intro t kt
      refine pre19 t ?_
      refine st22 _ ?_
      show Steps p.tables e below (T22.setTop (mkF m 26 #[.val (.ref a1), .val (.int 0), .val (.int 1), .val (.ref b2), .val (.int 0), .unset] [(.ref b23)])) _
      refine XS.astore X22.here hx rfl (hb hby d5_26) rfl rfl (l' := #[.val (.ref a1), .val (.int 0), .val (.int 1), .val (.ref b2), .val (.int 0), .val (.ref b23)]) rfl ?_
      refine XS.aload X22.here hx rfl (hb hby d5_28) rfl rfl ?_
      refine XS.iload X22.here hx rfl (hb hby d5_30) rfl ?_
      exact kt
    have f33 : Old Z n0 T22.heap := (f20.keep K22 all0)
    obtain ⟨_, _, ⟨T34, L34, k34, n34⟩, -, X34, ⟨Lc34, hQ34, l34, y34, z34⟩, st34⟩ := Jvm.LawKit.callS X22 hx (y := own_m25) hown (mvT hZ (hw _ (own_w 135 rfl))) (mvT hZ (hw _ (own_w 136 rfl))) (mvT hZ (hw _ (own_w 26 rfl))) (mvT hZ (hw _ (own_w 137 rfl))) (by decide) (backOf (W := 0) (rmgetc l Z a0 hw [] b23 (0 : Int32) kb24 (2 : Int32) [(.int (nar .byte ((c0 >>> ((0 : Int32) &&& 31)).toInt8.toInt32))), (.int (nar .byte ((c0 >>> ((8 : Int32) &&& 31)).toInt8.toInt32)))] (.int 0) (nar .byte ((c0 >>> ((0 : Int32) &&& 31)).toInt8.toInt32)) (nar .byte ((c0 >>> ((8 : Int32) &&& 31)).toInt8.toInt32)) 0 1 T22.heap n0 zs30 f33 qU g26 (by decide +kernel) (by decide +kernel) (by decide +kernel) rfl (by decide +kernel) (by decide +kernel) (by decide +kernel) rfl) hZ (hw _ (own_w 137 rfl)) (hw _ (own_w 26 rfl)) (by decide) (by decide)) (g := (mkF m 32 #[.val (.ref a1), .val (.int 0), .val (.int 1), .val (.ref b2), .val (.int 0), .val (.ref b23)] [(.int 0), (.ref b23)])) rfl (by rw [hml]; rfl) (argsL := [(.ref b23), (.int 0)]) (rest := []) (lenOf pd_6 rfl) rfl (by show 2 * 0 + _ ≤ _; exact Nat.le_of_eq rfl) (hb hby d5_32) (fun _ _ => ⟨rfl, rfl, (by decide : 2 + 0 ≤ _), (by decide : 3 + 0 ≤ _)⟩)
    dsimp only [Pt.U, Pt.locs, Pt.cells, Pt.slots] at X34 l34 y34 z34 st34 hQ34
    subst l34 y34 z34
    obtain ⟨rfl, Nq34, eq34⟩ := hQ34
    have N34 := Fr.app N22 Nq34
    have pre35 : own_Go p e below S0 (T34.setTop (mkF m 35 #[.val (.ref a1), .val (.int 0), .val (.int 1), .val (.ref b2), .val (.int 0), .val (.ref b23)] [(.int (own_gc (nar .byte ((c0 >>> ((0 : Int32) &&& 31)).toInt8.toInt32)) (nar .byte ((c0 >>> ((8 : Int32) &&& 31)).toInt8.toInt32))))])) := by
      intro t kt
      refine pre32 t ?_
      refine st34 _ ?_
      show Steps p.tables e below (T34.setTop (mkF m 35 #[.val (.ref a1), .val (.int 0), .val (.int 1), .val (.ref b2), .val (.int 0), .val (.ref b23)] [(.int (own_gc (nar .byte ((c0 >>> ((0 : Int32) &&& 31)).toInt8.toInt32)) (nar .byte ((c0 >>> ((8 : Int32) &&& 31)).toInt8.toInt32))))])) _
      exact kt
    have pre36 : own_Go p e below S0 (T34.setTop (mkF m 35 #[.val (.ref a1), .val (.int 0), .val (.int 1), .val (.ref b2), .val (.int 0), .val (.ref b23)] [(.int c0)])) := by
      intro t kt
      refine pre35 t ?_
      rw [own_utfget c0 (own_fitAt VC 0 (by decide) rfl)]
      exact kt
    have pre37 : own_Go p e below S0 (T34.setTop (mkF m 56 #[.val (.ref a1), .val (.int 0), .val (.int 1), .val (.ref b2), .val (.int 0), .val (.ref b23)] [(.ref b23)])) := by
      intro t kt
      refine pre36 t ?_
      refine XS.sipush X34.here hx rfl (hb hby d5_35) ?_
      refine XS.icmpYes X34.here hx rfl (pc0 := 38) (pc' := 54) rfl (hb hby d5_38) rfl (tlt hg).2.2.1 (by decide) (by decide) ?_
      refine XS.aload X34.here hx rfl (hb hby d5_54) rfl rfl ?_
      exact kt
    obtain ⟨fs, hr, hrun, hended, hW, hsame⟩ := X34.leave (v := some (.ref b23)) (fun h => by rw [Bd.returns] at h; cases h)
    refine ⟨_, _, fin _ (pre37 _ ?_), hrun, hended, _, _, rfl, ?_, ⟨_, rfl⟩, hW, hsame.mono (by decide) (by decide)⟩
    · jvm_step X34.here [X34.here.top, hx, (hb hby d5_56), X34.method', Bd.returns, Value.isRef, FieldType.isReference]
      first | (intro acts; rw [hr _ acts rfl rfl rfl]) | rw [hr _ _ rfl rfl rfl]
      exact Steps.refl _
    · show Qcmp3_1 Z a1 kc c0 h0 n0 _ T34.heap _
      rw [eq34]
      exact ⟨b23, kb24, rfl, N34, kc31, sz29, (Or.inr ⟨⟨own_fitAt VC 0 (by decide) rfl, trivial⟩, g26⟩)⟩

theorem d7_0 : decode jdk_52_method_15_code 0 = .ok (.iload_n 1, 1) := by decide +kernel
theorem d7_1 : decode jdk_52_method_15_code 1 = .ok (.aload_n 0, 1) := by decide +kernel
theorem d7_2 : decode jdk_52_method_15_code 2 = .ok (.arraylength, 1) := by decide +kernel
theorem d7_3 : decode jdk_52_method_15_code 3 = .ok (.isub, 1) := by decide +kernel
theorem d7_4 : decode jdk_52_method_15_code 4 = .ok (.bipush 31, 2) := by decide +kernel
theorem d7_6 : decode jdk_52_method_15_code 6 = .ok (.iushr, 1) := by decide +kernel
theorem d7_7 : decode jdk_52_method_15_code 7 = .ok (.i2b, 1) := by decide +kernel
theorem d7_8 : decode jdk_52_method_15_code 8 = .ok (.ireturn, 1) := by decide +kernel
theorem pn_7 : plainName "java/lang/StringUTF16" = true := by first | (simp [plainName, overriddenIn]; done) | decide +kernel
theorem ef_cofa (m : MethodId) (x0 : Addr) (x1 : Int32) : entryFrame m #[(.ref x0), (.int x1)] 2 = mkF m 0 #[.val (.ref x0), .val (.int x1)] [] := by first | (simp [entryFrame, mkF, argsToLocals, Value.category]; done) | rfl
def own_cofa (p2 : Int32) (z1 : Int32) : Int32 := (nar .byte ((((p2 - z1).toUInt32 >>> ((31 : Int32) &&& 31).toUInt32).toInt32).toInt8.toInt32))
def Qcofa (Z : State) (a1 : Addr) (p2 : Int32) (k1 : ClassId) (z1 : Int32) (vs : List Value) (d1 : Value) (h0 : Heap) (n0 : Nat) (v : Option Value) (h : Heap) (L : List Loc) : Prop := v = (some (.int (own_cofa p2 z1))) ∧ Fr n0 L ∧ h = h0
set_option maxRecDepth 65536 in
set_option maxHeartbeats 40000000 in
theorem rmcofa (l : Launch) (Z : State) (a0 : Array Value) (hw : ∀ d ∈ tables_1, d.before a0 Z = true) (ws : List Jvm.Cond) (a1 : Addr) (p2 : Int32) (k1 : ClassId) (z1 : Int32) (vs : List Value) (d1 : Value) (h0 : Heap) (n0 : Nat) (Z0 : n0 ≤ h0.size) (V1 : Arv Z h0 a1 k1 .byte z1 vs d1) :
    MetFree l own_m22 (head1 (Jvm.Cond.code own_m22 jdk_52_method_15_code 2 (some .byte) :: ws) (own_r 0 0 0 0)) (fun a U => a = #[(.ref a1), (.int p2)] ∧ Z.Warmed39 U.vm ∧ U.heap = h0) (fun _ _ _ _ _ => True) (fun _ U o U' => ∃ v L, o = .returned v ∧ Qcofa Z a1 p2 k1 z1 vs d1 h0 n0 v U'.heap L ∧ FrameEnd U o U' L (own_r 0 0 0 0).cells (own_r 0 0 0 0).slots) := by
  refine MetFree.of_bodySF (plainFor_of_name pn_7) hisR ?_
  intro p e s m args below meth c s₁ Bd hml0 hP hK
  obtain ⟨rfl, hZ, hh⟩ := hP
  have hx := Bd.exec
  have hby := Bd.bytes
  have hml : c.maxLocals = 2 := hml0
  have hown0 := findClass_of_methodNamed Bd.named
  have hown : s.vm.findClass "java/lang/StringUTF16" = some m.cls := hown0
  have hnm := (name_of_methodNamed Bd.named Bd.method).1
  have X0 : Stand p l e (own_r 0 0 0 0) s m #[(.ref a1), (.int p2)] below meth c s₁ [] 0 0 := Stand.of_body Bd
  have e0 : s₁.heap = h0 := by rw [← hh, Bd.state]; rfl
  have N0 := Fr.nil n0
  obtain ⟨S0, hS0⟩ : ∃ z, z = s₁.setTop (entryFrame m #[(.ref a1), (.int p2)] 2) := ⟨_, rfl⟩
  have pre0 : own_Go p e below S0 (s₁.setTop (mkF m 0 #[.val (.ref a1), .val (.int p2)] [])) := fun t k => by rw [hS0]; exact castTop (ef_cofa m a1 p2) k
  have fin : ∀ t, Steps p.tables e below S0 t → Steps p.tables e below (s₁.setTop (entryFrame m #[(.ref a1), (.int p2)] 2)) t := fun t k => by rw [hS0] at k; exact k
  have pre1 : own_Go p e below S0 (s₁.setTop (mkF m 2 #[.val (.ref a1), .val (.int p2)] [(.ref a1), (.int p2)])) := by
    intro t kt
    refine pre0 t ?_
    refine XS.iloadN X0.here hx rfl (hb hby d7_0) rfl ?_
    refine XS.aloadN X0.here hx rfl (hb hby d7_1) rfl rfl ?_
    exact kt
  obtain ⟨cl2, Ar2, -, Sz2, Ng2, -, -⟩ := id V1
  have pre3 : own_Go p e below S0 (s₁.setTop (mkF m 8 #[.val (.ref a1), .val (.int p2)] [(.int ((((p2 - z1).toUInt32 >>> ((31 : Int32) &&& 31).toUInt32).toInt32).toInt8.toInt32))])) := by
    intro t kt
    refine pre1 t ?_
    refine X0.arraylength hx (by rw [e0]; exact Ar2.1) (State.isArrayOf_alike hZ.alike Ar2.2.1) (g := (mkF m 2 #[.val (.ref a1), .val (.int p2)] [(.ref a1), (.int p2)])) rfl rfl (hb hby d7_2) _ ?_
    rw [len_of Sz2 Ng2]
    show Steps p.tables e below (s₁.setTop (mkF m 3 #[.val (.ref a1), .val (.int p2)] [(.int z1), (.int p2)])) _
    refine XS.isub X0.here hx rfl (hb hby d7_3) rfl ?_
    refine XS.bipush X0.here hx rfl (hb hby d7_4) ?_
    refine XS.iushr X0.here hx rfl (hb hby d7_6) rfl ?_
    refine XS.i2b X0.here hx rfl (hb hby d7_7) rfl ?_
    show Steps p.tables e below (s₁.setTop (mkF m 8 #[.val (.ref a1), .val (.int p2)] [(.int ((((p2 - z1).toUInt32 >>> ((31 : Int32) &&& 31).toUInt32).toInt32).toInt8.toInt32))])) _
    exact kt
  obtain ⟨fs, hr, hrun, hended, hW, hsame⟩ := X0.leave (v := some (.int (nar .byte ((((p2 - z1).toUInt32 >>> ((31 : Int32) &&& 31).toUInt32).toInt32).toInt8.toInt32)))) (fun h => by rw [Bd.returns] at h; cases h)
  refine ⟨_, _, fin _ (pre3 _ ?_), hrun, hended, _, _, rfl, ?_, ⟨_, rfl⟩, hW, hsame.mono (by decide) (by decide)⟩
  · exact retN X0 hx (t := .byte) Bd.returns (by simp) (hb hby d7_8) hr
  · show Qcofa Z a1 p2 k1 z1 vs d1 h0 n0 _ s₁.heap _
    rw [e0]
    exact ⟨(by show some _ = some _; rw [own_cofa]), N0, rfl⟩

theorem d3_27 : decode jdk_42_method_149_code 27 = .ok (.getstatic 38, 3) := by decide +kernel
theorem d3_30 : decode jdk_42_method_149_code 30 = .ok (.ifCond .eq 28, 3) := by decide +kernel
theorem d3_33 : decode jdk_42_method_149_code 33 = .ok (.aload_n 1, 1) := by decide +kernel
theorem d3_34 : decode jdk_42_method_149_code 34 = .ok (.iload_n 2, 1) := by decide +kernel
theorem d3_35 : decode jdk_42_method_149_code 35 = .ok (.iload_n 3, 1) := by decide +kernel
theorem d3_36 : decode jdk_42_method_149_code 36 = .ok (.invokestatic 177, 3) := by decide +kernel
theorem d3_39 : decode jdk_42_method_149_code 39 = .ok (.astore 5, 2) := by decide +kernel
theorem d3_41 : decode jdk_42_method_149_code 41 = .ok (.aload_n 0, 1) := by decide +kernel
theorem d3_42 : decode jdk_42_method_149_code 42 = .ok (.aload 5, 2) := by decide +kernel
theorem d3_44 : decode jdk_42_method_149_code 44 = .ok (.iload_n 3, 1) := by decide +kernel
theorem d3_45 : decode jdk_42_method_149_code 45 = .ok (.invokestatic 47, 3) := by decide +kernel
theorem d3_48 : decode jdk_42_method_149_code 48 = .ok (.putfield 15, 3) := by decide +kernel
theorem d3_51 : decode jdk_42_method_149_code 51 = .ok (.aload_n 0, 1) := by decide +kernel
theorem d3_52 : decode jdk_42_method_149_code 52 = .ok (.aload 5, 2) := by decide +kernel
theorem d3_54 : decode jdk_42_method_149_code 54 = .ok (.putfield 9, 3) := by decide +kernel
theorem d3_57 : decode jdk_42_method_149_code 57 = .ok (.return_, 1) := by decide +kernel
theorem pd_7 : parseMethodDescriptor "([BI)B" = some ⟨[(.array .byte), .int], some .byte⟩ := by decide +kernel
theorem ef_init4_1 (m : MethodId) (x0 : Addr) (x1 : Addr) : entryFrame m #[(.ref x0), (.ref x1), (.int 0), (.int 1), .null] 6 = mkF m 0 #[.val (.ref x0), .val (.ref x1), .val (.int 0), .val (.int 1), .val .null, .unset] [] := by first | (simp [entryFrame, mkF, argsToLocals, Value.category]; done) | rfl
def Qinit4_1 (Z : State) (a1 : Addr) (a2 : Addr) (kc : ClassId) (c0 : Int32) (wC : Int32) (h0 : Heap) (n0 : Nat) (v : Option Value) (h : Heap) (L : List Loc) : Prop := ∃ vb : Addr, ∃ kb : ClassId, v = none ∧ Fr n0 L ∧ Keep h0 h [a1] ∧ h0.size ≤ vb ∧ own_Str Z h a1 vb kb [c0]
set_option maxRecDepth 65536 in
set_option maxHeartbeats 40000000 in
theorem rminit4_1 (l : Launch) (Z : State) (a0 : Array Value) (hw : ∀ d ∈ tables_1, d.before a0 Z = true) (ws : List Jvm.Cond) (a1 : Addr) (a2 : Addr) (kc : ClassId) (c0 : Int32) (wC : Int32) (h0 : Heap) (n0 : Nat) (Z0 : n0 ≤ h0.size) (O0 : Old Z n0 h0) (qC : (own_SC Z wC)) (qU : (own_SU Z)) (E1 : Exa Z h0 a1 "java/lang/String") (F1 : Fld Z h0 a1 "java/lang/String" "value" "[B" .null) (F2 : Fld Z h0 a1 "java/lang/String" "coder" "B" (.int 0)) (g1 : n0 ≤ a1) (VC : Arv Z h0 a2 kc .char (1 : Int32) [(.int c0)] (.int 0)) :
    MetFree l own_m7 (head1 (Jvm.Cond.code own_m7 jdk_42_method_149_code 6 none :: ws) (own_r 4 2 3 57)) (fun a U => a = #[(.ref a1), (.ref a2), (.int 0), (.int 1), .null] ∧ Z.Warmed39 U.vm ∧ U.heap = h0) (fun _ _ _ _ _ => True) (fun _ U o U' => ∃ v L, o = .returned v ∧ Qinit4_1 Z a1 a2 kc c0 wC h0 n0 v U'.heap L ∧ FrameEnd U o U' L (own_r 4 2 3 57).cells (own_r 4 2 3 57).slots) := by
  refine MetFree.of_bodySF (plainFor_of_name pn_3) hisR ?_
  intro p e s m args below meth c s₁ Bd hml0 hP hK
  obtain ⟨rfl, hZ, hh⟩ := hP
  have hx := Bd.exec
  have hby := Bd.bytes
  have hml : c.maxLocals = 6 := hml0
  have hown0 := findClass_of_methodNamed Bd.named
  have hown : s.vm.findClass "java/lang/String" = some m.cls := hown0
  have hnm := (name_of_methodNamed Bd.named Bd.method).1
  have X0 : Stand p l e (own_r 4 2 3 57) s m #[(.ref a1), (.ref a2), (.int 0), (.int 1), .null] below meth c s₁ [] 0 0 := Stand.of_body Bd
  have e0 : s₁.heap = h0 := by rw [← hh, Bd.state]; rfl
  have N0 := Fr.nil n0
  obtain ⟨S0, hS0⟩ : ∃ z, z = s₁.setTop (entryFrame m #[(.ref a1), (.ref a2), (.int 0), (.int 1), .null] 6) := ⟨_, rfl⟩
  have pre0 : own_Go p e below S0 (s₁.setTop (mkF m 0 #[.val (.ref a1), .val (.ref a2), .val (.int 0), .val (.int 1), .val .null, .unset] [])) := fun t k => by rw [hS0]; exact castTop (ef_init4_1 m a1 a2) k
  have fin : ∀ t, Steps p.tables e below S0 t → Steps p.tables e below (s₁.setTop (entryFrame m #[(.ref a1), (.ref a2), (.int 0), (.int 1), .null] 6)) t := fun t k => by rw [hS0] at k; exact k
  have kc0 : Keep h0 h0 [a1] := Keep.refl _ _
  have pre1 : own_Go p e below S0 (s₁.setTop (mkF m 1 #[.val (.ref a1), .val (.ref a2), .val (.int 0), .val (.int 1), .val .null, .unset] [(.ref a1)])) := by
    intro t kt
    refine pre0 t ?_
    refine XS.aloadN X0.here hx rfl (hb hby d3_0) rfl rfl ?_
    exact kt
  obtain ⟨T2, X2, e2, st2⟩ := initO X0 hx hZ hown (hw _ (own_w 20 rfl)) (hw _ (own_w 21 rfl)) (hw _ (own_w 22 rfl)) e0 (g := (mkF m 1 #[.val (.ref a1), .val (.ref a2), .val (.int 0), .val (.int 1), .val .null, .unset] [(.ref a1)])) rfl (by rw [hml]; rfl) rfl (hb hby d3_1) (by decide) (W := 0) (by show 2 * 0 + _ ≤ _; exact Nat.le_of_eq rfl) (by decide)
  have pre3 : own_Go p e below S0 (T2.setTop (mkF m 27 #[.val (.ref a1), .val (.ref a2), .val (.int 0), .val (.int 1), .val .null, .unset] [])) := by
    intro t kt
    refine pre1 t ?_
    refine st2 _ ?_
    refine XS.iloadN X2.here hx rfl (hb hby d3_4) rfl ?_
    refine XS.ifYes X2.here hx rfl (pc0 := 5) (pc' := 27) rfl (hb hby d3_5) rfl ((if0 _ _).trans (feq (by decide : ¬ ((1 : Int32) = (0 : Int32)))).2) (by decide) (by decide) ?_
    exact kt
  obtain ⟨T4, X4, e4, st4⟩ := getS2 X2 hx hZ hown (host := "") (Or.inl (hw _ (own_w 23 rfl))) Via.refl e2 (qC.1.ext O0.2) (g := (mkF m 27 #[.val (.ref a1), .val (.ref a2), .val (.int 0), .val (.int 1), .val .null, .unset] [])) rfl (hb hby d3_27)
  have pre5 : own_Go p e below S0 (T4.setTop (mkF m 36 #[.val (.ref a1), .val (.ref a2), .val (.int 0), .val (.int 1), .val .null, .unset] [(.int 1), (.int 0), (.ref a2)])) := by
    intro t kt
    refine pre3 t ?_
    refine st4 _ ?_
    refine XS.ifNo X4.here hx rfl (hb hby d3_30) rfl ((if0 _ _).trans (feq qC.2).1) ?_
    refine XS.aloadN X4.here hx rfl (hb hby d3_33) rfl rfl ?_
    refine XS.iloadN X4.here hx rfl (hb hby d3_34) rfl ?_
    refine XS.iloadN X4.here hx rfl (hb hby d3_35) rfl ?_
    exact kt
  obtain ⟨_, _, ⟨T6, L6, k6, n6⟩, -, X6, ⟨Lc6, hQ6, l6, y6, z6⟩, st6⟩ := Jvm.LawKit.callS X4 hx (y := own_m23) hown (mvT hZ (hw _ (own_w 24 rfl))) (mvT hZ (hw _ (own_w 25 rfl))) (mvT hZ (hw _ (own_w 26 rfl))) (mvT hZ (hw _ (own_w 27 rfl))) (by decide) (backOf (W := 0) (rmcmp3_1 l Z a0 hw [] a2 kc c0 h0 n0 Z0 O0 qU VC) hZ (hw _ (own_w 27 rfl)) (hw _ (own_w 26 rfl)) (by decide) (by decide)) (g := (mkF m 36 #[.val (.ref a1), .val (.ref a2), .val (.int 0), .val (.int 1), .val .null, .unset] [(.int 1), (.int 0), (.ref a2)])) rfl (by rw [hml]; rfl) (argsL := [(.ref a2), (.int 0), (.int 1)]) (rest := []) (lenOf pd_5 rfl) rfl (by show 2 * 0 + _ ≤ _; exact Nat.le_of_eq rfl) (hb hby d3_36) (fun _ _ => ⟨rfl, e4, (by decide : 0 + 2 ≤ _), (by decide : 0 + 3 ≤ _)⟩)
  dsimp only [Pt.U, Pt.locs, Pt.cells, Pt.slots] at X6 l6 y6 z6 st6 hQ6
  subst l6 y6 z6
  obtain ⟨b7, kb8, rfl, Nq6, K6, g9, g10⟩ := hQ6
  have N6 := Fr.app N0 Nq6
  have ne11 : a1 ≠ b7 := Nat.ne_of_lt (Nat.lt_of_lt_of_le E1.lt g9)
  have ne12 : a2 ≠ b7 := Nat.ne_of_lt (Nat.lt_of_lt_of_le VC.lt g9)
  have ge13 : n0 ≤ b7 := Nat.le_trans Z0 g9
  have sz14 : h0.size ≤ b7 := Nat.le_trans kc0.1 g9
  have zs15 : n0 ≤ T6.heap.size := Nat.le_trans Z0 K6.1
  have kc16 : Keep h0 T6.heap [a1] := kc0.trans K6 all0
  have pre17 : own_Go p e below S0 (T6.setTop (mkF m 39 #[.val (.ref a1), .val (.ref a2), .val (.int 0), .val (.int 1), .val .null, .unset] [(.ref b7)])) := by
    intro t kt
    refine pre5 t ?_
    refine st6 _ ?_
    show Steps p.tables e below (T6.setTop (mkF m 39 #[.val (.ref a1), .val (.ref a2), .val (.int 0), .val (.int 1), .val .null, .unset] [(.ref b7)])) _
    exact kt
  obtain ⟨hl, hv⟩ | ⟨hl, hv⟩ := g10
  · have pre18 : own_Go p e below S0 (T6.setTop (mkF m 45 #[.val (.ref a1), .val (.ref a2), .val (.int 0), .val (.int 1), .val .null, .val (.ref b7)] [(.int 1), (.ref b7), (.ref a1)])) := by
      intro t kt
      refine pre17 t ?_
      refine XS.astore X6.here hx rfl (hb hby d3_39) rfl rfl (l' := #[.val (.ref a1), .val (.ref a2), .val (.int 0), .val (.int 1), .val .null, .val (.ref b7)]) rfl ?_
      refine XS.aloadN X6.here hx rfl (hb hby d3_41) rfl rfl ?_
      refine XS.aload X6.here hx rfl (hb hby d3_42) rfl rfl ?_
      refine XS.iloadN X6.here hx rfl (hb hby d3_44) rfl ?_
      exact kt
    obtain ⟨_, _, ⟨T19, L19, k19, n19⟩, -, X19, ⟨Lc19, hQ19, l19, y19, z19⟩, st19⟩ := Jvm.LawKit.callS X6 hx (y := own_m22) hown (mvT hZ (hw _ (own_w 32 rfl))) (mvT hZ (hw _ (own_w 33 rfl))) (mvT hZ (hw _ (own_w 26 rfl))) (mvT hZ (hw _ (own_w 34 rfl))) (by decide) (backOf (W := 1) (rmcofa l Z a0 hw [] b7 (1 : Int32) kb8 (1 : Int32) [(.int (nar .byte (c0.toInt8.toInt32)))] (.int 0) T6.heap n0 zs15 hv) hZ (hw _ (own_w 34 rfl)) (hw _ (own_w 26 rfl)) (by decide) (by decide)) (g := (mkF m 45 #[.val (.ref a1), .val (.ref a2), .val (.int 0), .val (.int 1), .val .null, .val (.ref b7)] [(.int 1), (.ref b7), (.ref a1)])) rfl (by rw [hml]; rfl) (argsL := [(.ref b7), (.int 1)]) (rest := [(.ref a1)]) (lenOf pd_7 rfl) rfl (by show 2 * 0 + _ ≤ _; exact Nat.le_of_eq rfl) (hb hby d3_45) (fun _ _ => ⟨rfl, rfl, (by decide : 2 + 0 ≤ _), (by decide : 3 + 0 ≤ _)⟩)
    dsimp only [Pt.U, Pt.locs, Pt.cells, Pt.slots] at X19 l19 y19 z19 st19 hQ19
    subst l19 y19 z19
    obtain ⟨rfl, Nq19, eq19⟩ := hQ19
    have N19 := Fr.app N6 Nq19
    have pre20 : own_Go p e below S0 (T19.setTop (mkF m 48 #[.val (.ref a1), .val (.ref a2), .val (.int 0), .val (.int 1), .val .null, .val (.ref b7)] [(.int (own_cofa (1 : Int32) (1 : Int32))), (.ref a1)])) := by
      intro t kt
      refine pre18 t ?_
      refine st19 _ ?_
      show Steps p.tables e below (T19.setTop (mkF m 48 #[.val (.ref a1), .val (.ref a2), .val (.int 0), .val (.int 1), .val .null, .val (.ref b7)] [(.int (own_cofa (1 : Int32) (1 : Int32))), (.ref a1)])) _
      exact kt
    have pre21 : own_Go p e below S0 (T19.setTop (mkF m 48 #[.val (.ref a1), .val (.ref a2), .val (.int 0), .val (.int 1), .val .null, .val (.ref b7)] [(.int 0), (.ref a1)])) := by
      intro t kt
      refine pre20 t ?_
      rw [(by decide : (own_cofa (1 : Int32) (1 : Int32)) = (0 : Int32))]
      exact kt
    have f22 : Fld Z T6.heap a1 "java/lang/String" "coder" "B" (.int 0) := (F2.keep K6 nin0)
    have f23 : Exa Z T6.heap a1 "java/lang/String" := (E1.keep K6)
    obtain ⟨T24, h24, X24, e24, W24, st24⟩ := putFN X19 hx hZ hown (hw _ (own_w 35 rfl)) Via.refl eq19 f22 f23 (Or.inr ⟨(hw _ (own_w 36 rfl)), rfl, hnm⟩) (hw _ (own_w 10 rfl)) (ty := .byte) (v' := (.int 0)) (by decide) rfl (by decide) (g := (mkF m 48 #[.val (.ref a1), .val (.ref a2), .val (.int 0), .val (.int 1), .val .null, .val (.ref b7)] [(.int 0), (.ref a1)])) rfl rfl (hb hby d3_48)
    have N24 := Fr.snoc X24 N19 g1
    have zs25 : n0 ≤ h24.size := Nat.le_trans zs15 (Keep.of_wr W24).1
    have kc26 : Keep h0 h24 [a1] := kc16.wr W24 (Or.inl (List.mem_of_getElem? (i := 0) rfl))
    have fw24 : Fld Z h24 a1 "java/lang/String" "coder" "B" (.int 0) := f22.same W24
    have pre27 : own_Go p e below S0 (T24.setTop (mkF m 54 #[.val (.ref a1), .val (.ref a2), .val (.int 0), .val (.int 1), .val .null, .val (.ref b7)] [(.ref b7), (.ref a1)])) := by
      intro t kt
      refine pre21 t ?_
      refine st24 _ ?_
      refine XS.aloadN X24.here hx rfl (hb hby d3_51) rfl rfl ?_
      refine XS.aload X24.here hx rfl (hb hby d3_52) rfl rfl ?_
      exact kt
    have f28 : Fld Z h24 a1 "java/lang/String" "value" "[B" .null := ((F1.keep K6 nin0).other W24 (Or.inr (slot_ne (Or.inr (hw _ (own_w 38 rfl))) (Or.inr (hw _ (own_w 36 rfl))) (by decide) (t := (.array .byte)) (t' := .byte) (by decide) (by decide))))
    have f29 : Exa Z h24 a1 "java/lang/String" := (f23.wr W24)
    obtain ⟨T30, h30, X30, e30, W30, st30⟩ := putF X24 hx hZ hown (host := "") (Or.inl (hw _ (own_w 37 rfl))) Via.refl e24 f28 f29 (Or.inr ⟨(hw _ (own_w 38 rfl)), rfl, hnm⟩) (hw _ (own_w 10 rfl)) (ty := (.array .byte)) (by decide) rfl rfl (g := (mkF m 54 #[.val (.ref a1), .val (.ref a2), .val (.int 0), .val (.int 1), .val .null, .val (.ref b7)] [(.ref b7), (.ref a1)])) rfl rfl (hb hby d3_54)
    have N30 := Fr.snoc X30 N24 g1
    have zs31 : n0 ≤ h30.size := Nat.le_trans zs25 (Keep.of_wr W30).1
    have kc32 : Keep h0 h30 [a1] := kc26.wr W30 (Or.inl (List.mem_of_getElem? (i := 0) rfl))
    have fw30 : Fld Z h30 a1 "java/lang/String" "value" "[B" (.ref b7) := f28.same W30
    have pre33 : own_Go p e below S0 (T30.setTop (mkF m 57 #[.val (.ref a1), .val (.ref a2), .val (.int 0), .val (.int 1), .val .null, .val (.ref b7)] [])) := by
      intro t kt
      refine pre27 t ?_
      refine st30 _ ?_
      exact kt
    have f34 : Exa Z h30 a1 "java/lang/String" := (f29.wr W30)
    have f35 : Fld Z h30 a1 "java/lang/String" "coder" "B" (.int 0) := (fw24.other W30 (Or.inr (slot_ne (Or.inr (hw _ (own_w 36 rfl))) (Or.inr (hw _ (own_w 38 rfl))) (by decide) (t := .byte) (t' := (.array .byte)) (by decide) (by decide))))
    have f36 : Arv Z h30 b7 kb8 .byte (1 : Int32) [(.int (nar .byte (c0.toInt8.toInt32)))] (.int 0) := ((hv.other W24 (Ne.symm ne11)).other W30 (Ne.symm ne11))
    obtain ⟨fs, hr, hrun, hended, hW, hsame⟩ := X30.leave (v := none) (fun _ => rfl)
    refine ⟨_, _, fin _ (pre33 _ ?_), hrun, hended, _, _, rfl, ?_, ⟨_, rfl⟩, hW, hsame.mono (by decide) (by decide)⟩
    · exact X30.returnOut hx Bd.returns (hb hby d3_57) hr
    · show Qinit4_1 Z a1 a2 kc c0 wC h0 n0 _ T30.heap _
      rw [e30]
      exact ⟨b7, kb8, rfl, N30, kc32, sz14, ⟨f34, fw30, Or.inl ⟨f35, hl, f36⟩⟩⟩
  · have pre37 : own_Go p e below S0 (T6.setTop (mkF m 45 #[.val (.ref a1), .val (.ref a2), .val (.int 0), .val (.int 1), .val .null, .val (.ref b7)] [(.int 1), (.ref b7), (.ref a1)])) := by
      intro t kt
      refine pre17 t ?_
      refine XS.astore X6.here hx rfl (hb hby d3_39) rfl rfl (l' := #[.val (.ref a1), .val (.ref a2), .val (.int 0), .val (.int 1), .val .null, .val (.ref b7)]) rfl ?_
      refine XS.aloadN X6.here hx rfl (hb hby d3_41) rfl rfl ?_
      refine XS.aload X6.here hx rfl (hb hby d3_42) rfl rfl ?_
      refine XS.iloadN X6.here hx rfl (hb hby d3_44) rfl ?_
      exact kt
    obtain ⟨_, _, ⟨T38, L38, k38, n38⟩, -, X38, ⟨Lc38, hQ38, l38, y38, z38⟩, st38⟩ := Jvm.LawKit.callS X6 hx (y := own_m22) hown (mvT hZ (hw _ (own_w 32 rfl))) (mvT hZ (hw _ (own_w 33 rfl))) (mvT hZ (hw _ (own_w 26 rfl))) (mvT hZ (hw _ (own_w 34 rfl))) (by decide) (backOf (W := 1) (rmcofa l Z a0 hw [] b7 (1 : Int32) kb8 (2 : Int32) [(.int (nar .byte ((c0 >>> ((0 : Int32) &&& 31)).toInt8.toInt32))), (.int (nar .byte ((c0 >>> ((8 : Int32) &&& 31)).toInt8.toInt32)))] (.int 0) T6.heap n0 zs15 hv) hZ (hw _ (own_w 34 rfl)) (hw _ (own_w 26 rfl)) (by decide) (by decide)) (g := (mkF m 45 #[.val (.ref a1), .val (.ref a2), .val (.int 0), .val (.int 1), .val .null, .val (.ref b7)] [(.int 1), (.ref b7), (.ref a1)])) rfl (by rw [hml]; rfl) (argsL := [(.ref b7), (.int 1)]) (rest := [(.ref a1)]) (lenOf pd_7 rfl) rfl (by show 2 * 0 + _ ≤ _; exact Nat.le_of_eq rfl) (hb hby d3_45) (fun _ _ => ⟨rfl, rfl, (by decide : 2 + 0 ≤ _), (by decide : 3 + 0 ≤ _)⟩)
    dsimp only [Pt.U, Pt.locs, Pt.cells, Pt.slots] at X38 l38 y38 z38 st38 hQ38
    subst l38 y38 z38
    obtain ⟨rfl, Nq38, eq38⟩ := hQ38
    have N38 := Fr.app N6 Nq38
    have pre39 : own_Go p e below S0 (T38.setTop (mkF m 48 #[.val (.ref a1), .val (.ref a2), .val (.int 0), .val (.int 1), .val .null, .val (.ref b7)] [(.int (own_cofa (1 : Int32) (2 : Int32))), (.ref a1)])) := by
      intro t kt
      refine pre37 t ?_
      refine st38 _ ?_
      show Steps p.tables e below (T38.setTop (mkF m 48 #[.val (.ref a1), .val (.ref a2), .val (.int 0), .val (.int 1), .val .null, .val (.ref b7)] [(.int (own_cofa (1 : Int32) (2 : Int32))), (.ref a1)])) _
      exact kt
    have pre40 : own_Go p e below S0 (T38.setTop (mkF m 48 #[.val (.ref a1), .val (.ref a2), .val (.int 0), .val (.int 1), .val .null, .val (.ref b7)] [(.int 1), (.ref a1)])) := by
      intro t kt
      refine pre39 t ?_
      rw [(by decide : (own_cofa (1 : Int32) (2 : Int32)) = (1 : Int32))]
      exact kt
    have f41 : Fld Z T6.heap a1 "java/lang/String" "coder" "B" (.int 0) := (F2.keep K6 nin0)
    have f42 : Exa Z T6.heap a1 "java/lang/String" := (E1.keep K6)
    obtain ⟨T43, h43, X43, e43, W43, st43⟩ := putFN X38 hx hZ hown (hw _ (own_w 35 rfl)) Via.refl eq38 f41 f42 (Or.inr ⟨(hw _ (own_w 36 rfl)), rfl, hnm⟩) (hw _ (own_w 10 rfl)) (ty := .byte) (v' := (.int 1)) (by decide) rfl (by decide) (g := (mkF m 48 #[.val (.ref a1), .val (.ref a2), .val (.int 0), .val (.int 1), .val .null, .val (.ref b7)] [(.int 1), (.ref a1)])) rfl rfl (hb hby d3_48)
    have N43 := Fr.snoc X43 N38 g1
    have zs44 : n0 ≤ h43.size := Nat.le_trans zs15 (Keep.of_wr W43).1
    have kc45 : Keep h0 h43 [a1] := kc16.wr W43 (Or.inl (List.mem_of_getElem? (i := 0) rfl))
    have fw43 : Fld Z h43 a1 "java/lang/String" "coder" "B" (.int 1) := f41.same W43
    have pre46 : own_Go p e below S0 (T43.setTop (mkF m 54 #[.val (.ref a1), .val (.ref a2), .val (.int 0), .val (.int 1), .val .null, .val (.ref b7)] [(.ref b7), (.ref a1)])) := by
      intro t kt
      refine pre40 t ?_
      refine st43 _ ?_
      refine XS.aloadN X43.here hx rfl (hb hby d3_51) rfl rfl ?_
      refine XS.aload X43.here hx rfl (hb hby d3_52) rfl rfl ?_
      exact kt
    have f47 : Fld Z h43 a1 "java/lang/String" "value" "[B" .null := ((F1.keep K6 nin0).other W43 (Or.inr (slot_ne (Or.inr (hw _ (own_w 38 rfl))) (Or.inr (hw _ (own_w 36 rfl))) (by decide) (t := (.array .byte)) (t' := .byte) (by decide) (by decide))))
    have f48 : Exa Z h43 a1 "java/lang/String" := (f42.wr W43)
    obtain ⟨T49, h49, X49, e49, W49, st49⟩ := putF X43 hx hZ hown (host := "") (Or.inl (hw _ (own_w 37 rfl))) Via.refl e43 f47 f48 (Or.inr ⟨(hw _ (own_w 38 rfl)), rfl, hnm⟩) (hw _ (own_w 10 rfl)) (ty := (.array .byte)) (by decide) rfl rfl (g := (mkF m 54 #[.val (.ref a1), .val (.ref a2), .val (.int 0), .val (.int 1), .val .null, .val (.ref b7)] [(.ref b7), (.ref a1)])) rfl rfl (hb hby d3_54)
    have N49 := Fr.snoc X49 N43 g1
    have zs50 : n0 ≤ h49.size := Nat.le_trans zs44 (Keep.of_wr W49).1
    have kc51 : Keep h0 h49 [a1] := kc45.wr W49 (Or.inl (List.mem_of_getElem? (i := 0) rfl))
    have fw49 : Fld Z h49 a1 "java/lang/String" "value" "[B" (.ref b7) := f47.same W49
    have pre52 : own_Go p e below S0 (T49.setTop (mkF m 57 #[.val (.ref a1), .val (.ref a2), .val (.int 0), .val (.int 1), .val .null, .val (.ref b7)] [])) := by
      intro t kt
      refine pre46 t ?_
      refine st49 _ ?_
      exact kt
    have f53 : Exa Z h49 a1 "java/lang/String" := (f48.wr W49)
    have f54 : Fld Z h49 a1 "java/lang/String" "coder" "B" (.int 1) := (fw43.other W49 (Or.inr (slot_ne (Or.inr (hw _ (own_w 36 rfl))) (Or.inr (hw _ (own_w 38 rfl))) (by decide) (t := .byte) (t' := (.array .byte)) (by decide) (by decide))))
    have f55 : Arv Z h49 b7 kb8 .byte (2 : Int32) [(.int (nar .byte ((c0 >>> ((0 : Int32) &&& 31)).toInt8.toInt32))), (.int (nar .byte ((c0 >>> ((8 : Int32) &&& 31)).toInt8.toInt32)))] (.int 0) := ((hv.other W43 (Ne.symm ne11)).other W49 (Ne.symm ne11))
    obtain ⟨fs, hr, hrun, hended, hW, hsame⟩ := X49.leave (v := none) (fun _ => rfl)
    refine ⟨_, _, fin _ (pre52 _ ?_), hrun, hended, _, _, rfl, ?_, ⟨_, rfl⟩, hW, hsame.mono (by decide) (by decide)⟩
    · exact X49.returnOut hx Bd.returns (hb hby d3_57) hr
    · show Qinit4_1 Z a1 a2 kc c0 wC h0 n0 _ T49.heap _
      rw [e49]
      exact ⟨b7, kb8, rfl, N49, kc51, sz14, ⟨f53, fw49, Or.inr ⟨f54, hl, f55⟩⟩⟩

theorem ef_init1_1 (m : MethodId) (x0 : Addr) (x1 : Addr) : entryFrame m #[(.ref x0), (.ref x1)] 2 = mkF m 0 #[.val (.ref x0), .val (.ref x1)] [] := by first | (simp [entryFrame, mkF, argsToLocals, Value.category]; done) | rfl
def Qinit1_1 (Z : State) (a1 : Addr) (a2 : Addr) (kc : ClassId) (c0 : Int32) (wC : Int32) (h0 : Heap) (n0 : Nat) (v : Option Value) (h : Heap) (L : List Loc) : Prop := ∃ vb : Addr, ∃ kb : ClassId, v = none ∧ Fr n0 L ∧ Keep h0 h [a1] ∧ h0.size ≤ vb ∧ own_Str Z h a1 vb kb [c0]
set_option maxRecDepth 65536 in
set_option maxHeartbeats 40000000 in
theorem rminit1_1 (l : Launch) (Z : State) (a0 : Array Value) (hw : ∀ d ∈ tables_1, d.before a0 Z = true) (ws : List Jvm.Cond) (a1 : Addr) (a2 : Addr) (kc : ClassId) (c0 : Int32) (wC : Int32) (h0 : Heap) (n0 : Nat) (Z0 : n0 ≤ h0.size) (O0 : Old Z n0 h0) (qC : (own_SC Z wC)) (qU : (own_SU Z)) (E1 : Exa Z h0 a1 "java/lang/String") (F1 : Fld Z h0 a1 "java/lang/String" "value" "[B" .null) (F2 : Fld Z h0 a1 "java/lang/String" "coder" "B" (.int 0)) (g1 : n0 ≤ a1) (VC : Arv Z h0 a2 kc .char (1 : Int32) [(.int c0)] (.int 0)) :
    MetFree l own_m6 (head1 (Jvm.Cond.code own_m6 jdk_42_method_3_code 2 none :: ws) (own_r 5 2 3 74)) (fun a U => a = #[(.ref a1), (.ref a2)] ∧ Z.Warmed39 U.vm ∧ U.heap = h0) (fun _ _ _ _ _ => True) (fun _ U o U' => ∃ v L, o = .returned v ∧ Qinit1_1 Z a1 a2 kc c0 wC h0 n0 v U'.heap L ∧ FrameEnd U o U' L (own_r 5 2 3 74).cells (own_r 5 2 3 74).slots) := by
  refine MetFree.of_bodySF (plainFor_of_name pn_2) hisR ?_
  intro p e s m args below meth c s₁ Bd hml0 hP hK
  obtain ⟨rfl, hZ, hh⟩ := hP
  have hx := Bd.exec
  have hby := Bd.bytes
  have hml : c.maxLocals = 2 := hml0
  have hown0 := findClass_of_methodNamed Bd.named
  have hown : s.vm.findClass "java/lang/String" = some m.cls := hown0
  have hnm := (name_of_methodNamed Bd.named Bd.method).1
  have X0 : Stand p l e (own_r 5 2 3 74) s m #[(.ref a1), (.ref a2)] below meth c s₁ [] 0 0 := Stand.of_body Bd
  have e0 : s₁.heap = h0 := by rw [← hh, Bd.state]; rfl
  have N0 := Fr.nil n0
  obtain ⟨S0, hS0⟩ : ∃ z, z = s₁.setTop (entryFrame m #[(.ref a1), (.ref a2)] 2) := ⟨_, rfl⟩
  have pre0 : own_Go p e below S0 (s₁.setTop (mkF m 0 #[.val (.ref a1), .val (.ref a2)] [])) := fun t k => by rw [hS0]; exact castTop (ef_init1_1 m a1 a2) k
  have fin : ∀ t, Steps p.tables e below S0 t → Steps p.tables e below (s₁.setTop (entryFrame m #[(.ref a1), (.ref a2)] 2)) t := fun t k => by rw [hS0] at k; exact k
  have kc0 : Keep h0 h0 [a1] := Keep.refl _ _
  have pre1 : own_Go p e below S0 (s₁.setTop (mkF m 4 #[.val (.ref a1), .val (.ref a2)] [(.ref a2), (.int 0), (.ref a2), (.ref a1)])) := by
    intro t kt
    refine pre0 t ?_
    refine XS.aloadN X0.here hx rfl (hb hby d2_0) rfl rfl ?_
    refine XS.aloadN X0.here hx rfl (hb hby d2_1) rfl rfl ?_
    refine XS.iconst X0.here hx rfl (hb hby d2_2) ?_
    refine XS.aloadN X0.here hx rfl (hb hby d2_3) rfl rfl ?_
    exact kt
  obtain ⟨cl2, Ar2, -, Sz2, Ng2, -, -⟩ := id VC
  have pre3 : own_Go p e below S0 (s₁.setTop (mkF m 6 #[.val (.ref a1), .val (.ref a2)] [.null, (.int 1), (.int 0), (.ref a2), (.ref a1)])) := by
    intro t kt
    refine pre1 t ?_
    refine X0.arraylength hx (by rw [e0]; exact Ar2.1) (State.isArrayOf_alike hZ.alike Ar2.2.1) (g := (mkF m 4 #[.val (.ref a1), .val (.ref a2)] [(.ref a2), (.int 0), (.ref a2), (.ref a1)])) rfl rfl (hb hby d2_4) _ ?_
    rw [len_of Sz2 Ng2]
    show Steps p.tables e below (s₁.setTop (mkF m 5 #[.val (.ref a1), .val (.ref a2)] [(.int 1), (.int 0), (.ref a2), (.ref a1)])) _
    refine XS.aconstNull X0.here hx rfl (hb hby d2_5) ?_
    exact kt
  obtain ⟨_, _, ⟨T4, L4, k4, n4⟩, -, X4, ⟨Lc4, hQ4, l4, y4, z4⟩, st4⟩ := X0.specialBack hx (y := own_m7) rfl hown (mvT hZ (hw _ (own_w 16 rfl))) (mvT hZ (hw _ (own_w 17 rfl))) (mvT hZ (hw _ (own_w 19 rfl))) (by decide) (backOf (W := 0) (rminit4_1 l Z a0 hw [] a1 a2 kc c0 wC h0 n0 Z0 O0 qC qU E1 F1 F2 g1 VC) hZ (hw _ (own_w 19 rfl)) (hw _ (own_w 11 rfl)) (by decide) (by decide)) (g := (mkF m 6 #[.val (.ref a1), .val (.ref a2)] [.null, (.int 1), (.int 0), (.ref a2), (.ref a1)])) rfl (by rw [hml]; rfl) (Steps.refl _) (a := a1) (argsL := [(.ref a2), (.int 0), (.int 1), .null]) (rest := []) (lenOf pd_0 rfl) rfl (by show 2 * 0 + _ ≤ _; exact Nat.le_of_eq rfl) (hb hby d2_6) (fun _ _ => ⟨rfl, e0, (by decide : 0 + 2 ≤ _), (by decide : 0 + 3 ≤ _)⟩)
  dsimp only [Pt.U, Pt.locs, Pt.cells, Pt.slots] at X4 l4 y4 z4 st4 hQ4
  subst l4 y4 z4
  obtain ⟨vb5, kb6, rfl, Nq4, K4, g7, g8⟩ := hQ4
  have N4 := Fr.app N0 Nq4
  have ne9 : a1 ≠ vb5 := Nat.ne_of_lt (Nat.lt_of_lt_of_le E1.lt g7)
  have ne10 : a2 ≠ vb5 := Nat.ne_of_lt (Nat.lt_of_lt_of_le VC.lt g7)
  have ge11 : n0 ≤ vb5 := Nat.le_trans Z0 g7
  have sz12 : h0.size ≤ vb5 := Nat.le_trans kc0.1 g7
  have zs13 : n0 ≤ T4.heap.size := Nat.le_trans Z0 K4.1
  have kc14 : Keep h0 T4.heap [a1] := kc0.trans K4 (allS (Or.inl (List.mem_of_getElem? (i := 0) rfl)) all0)
  have pre15 : own_Go p e below S0 (T4.setTop (mkF m 9 #[.val (.ref a1), .val (.ref a2)] [])) := by
    intro t kt
    refine pre3 t ?_
    refine st4.trans ?_
    show Steps p.tables e below (T4.setTop (mkF m 9 #[.val (.ref a1), .val (.ref a2)] [])) _
    exact kt
  obtain ⟨fs, hr, hrun, hended, hW, hsame⟩ := X4.leave (v := none) (fun _ => rfl)
  refine ⟨_, _, fin _ (pre15 _ ?_), hrun, hended, _, _, rfl, ?_, ⟨_, rfl⟩, hW, hsame.mono (by decide) (by decide)⟩
  · exact X4.returnOut hx Bd.returns (hb hby d2_9) hr
  · show Qinit1_1 Z a1 a2 kc c0 wC h0 n0 _ T4.heap _
    exact ⟨vb5, kb6, rfl, N4, kc14, sz12, g8⟩

theorem ef_cmp5_2 (m : MethodId) (x0 : Addr) (x2 : Addr) : entryFrame m #[(.ref x0), (.int 0), (.ref x2), (.int 0), (.int 2)] 7 = mkF m 0 #[.val (.ref x0), .val (.int 0), .val (.ref x2), .val (.int 0), .val (.int 2), .unset, .unset] [] := by first | (simp [entryFrame, mkF, argsToLocals, Value.category]; done) | rfl
def Qcmp5_2 (Z : State) (a1 : Addr) (a2 : Addr) (kc : ClassId) (kb : ClassId) (c0 : Int32) (c1 : Int32) (h0 : Heap) (n0 : Nat) (v : Option Value) (h : Heap) (L : List Loc) : Prop := ∃ r : Int32, v = (some (.int r)) ∧ Fr n0 L ∧ Keep h0 h [a2] ∧ ((r = (2 : Int32) ∧ own_Lat [c0, c1] ∧ Arv Z h a2 kb .byte (2 : Int32) [(.int (nar .byte (c0.toInt8.toInt32))), (.int (nar .byte (c1.toInt8.toInt32)))] (.int 0)) ∨ (r = (0 : Int32) ∧ (255 : Int32) < c0) ∨ (r = (1 : Int32) ∧ (255 : Int32) < c1))
set_option maxRecDepth 65536 in
set_option maxHeartbeats 40000000 in
theorem rmcmp5_2 (l : Launch) (Z : State) (a0 : Array Value) (hw : ∀ d ∈ tables_1, d.before a0 Z = true) (ws : List Jvm.Cond) (a1 : Addr) (a2 : Addr) (kc : ClassId) (kb : ClassId) (c0 : Int32) (c1 : Int32) (h0 : Heap) (n0 : Nat) (Z0 : n0 ≤ h0.size) (VC : Arv Z h0 a1 kc .char (2 : Int32) [(.int c0), (.int c1)] (.int 0)) (g2 : n0 ≤ a2) (VB : Arv Z h0 a2 kb .byte (2 : Int32) [(.int 0), (.int 0)] (.int 0)) (n12 : a1 ≠ a2) :
    MetFree l own_m24 (head1 (Jvm.Cond.code own_m24 jdk_52_method_21_code 7 (some .int) :: ws) (own_r 0 0 0 0)) (fun a U => a = #[(.ref a1), (.int 0), (.ref a2), (.int 0), (.int 2)] ∧ Z.Warmed39 U.vm ∧ U.heap = h0) (fun _ _ _ _ _ => True) (fun _ U o U' => ∃ v L, o = .returned v ∧ Qcmp5_2 Z a1 a2 kc kb c0 c1 h0 n0 v U'.heap L ∧ FrameEnd U o U' L (own_r 0 0 0 0).cells (own_r 0 0 0 0).slots) := by
  refine MetFree.of_bodySF (plainFor_of_name pn_6) hisR ?_
  intro p e s m args below meth c s₁ Bd hml0 hP hK
  obtain ⟨rfl, hZ, hh⟩ := hP
  have hx := Bd.exec
  have hby := Bd.bytes
  have hml : c.maxLocals = 7 := hml0
  have hown0 := findClass_of_methodNamed Bd.named
  have hown : s.vm.findClass "java/lang/StringUTF16" = some m.cls := hown0
  have hnm := (name_of_methodNamed Bd.named Bd.method).1
  have X0 : Stand p l e (own_r 0 0 0 0) s m #[(.ref a1), (.int 0), (.ref a2), (.int 0), (.int 2)] below meth c s₁ [] 0 0 := Stand.of_body Bd
  have e0 : s₁.heap = h0 := by rw [← hh, Bd.state]; rfl
  have N0 := Fr.nil n0
  obtain ⟨S0, hS0⟩ : ∃ z, z = s₁.setTop (entryFrame m #[(.ref a1), (.int 0), (.ref a2), (.int 0), (.int 2)] 7) := ⟨_, rfl⟩
  have pre0 : own_Go p e below S0 (s₁.setTop (mkF m 0 #[.val (.ref a1), .val (.int 0), .val (.ref a2), .val (.int 0), .val (.int 2), .unset, .unset] [])) := fun t k => by rw [hS0]; exact castTop (ef_cmp5_2 m a1 a2) k
  have fin : ∀ t, Steps p.tables e below S0 t → Steps p.tables e below (s₁.setTop (entryFrame m #[(.ref a1), (.int 0), (.ref a2), (.int 0), (.int 2)] 7)) t := fun t k => by rw [hS0] at k; exact k
  have kc0 : Keep h0 h0 [a2] := Keep.refl _ _
  have pre1 : own_Go p e below S0 (s₁.setTop (mkF m 12 #[.val (.ref a1), .val (.int 0), .val (.ref a2), .val (.int 0), .val (.int 2), .val (.int 0), .unset] [(.int 0), (.ref a1)])) := by
    intro t kt
    refine pre0 t ?_
    refine XS.iconst X0.here hx rfl (hb hby d6_0) ?_
    refine XS.istore X0.here hx rfl (hb hby d6_1) rfl (l' := #[.val (.ref a1), .val (.int 0), .val (.ref a2), .val (.int 0), .val (.int 2), .val (.int 0), .unset]) rfl ?_
    refine XS.iload X0.here hx rfl (hb hby d6_3) rfl ?_
    refine XS.iload X0.here hx rfl (hb hby d6_5) rfl ?_
    refine XS.icmpNo X0.here hx rfl (hb hby d6_7) rfl (tlt (by decide : (0 : Int32) < (2 : Int32))).2.1 ?_
    refine XS.aloadN X0.here hx rfl (hb hby d6_10) rfl rfl ?_
    show Steps p.tables e below (s₁.setTop (mkF m 11 #[.val (.ref a1), .val (.int 0), .val (.ref a2), .val (.int 0), .val (.int 2), .val (.int 0), .unset] [(.ref a1)])) _
    refine XS.iloadN X0.here hx rfl (hb hby d6_11) rfl ?_
    exact kt
  obtain ⟨cl2, Ar2, -, Sz2, -, Hs2, -⟩ := id VC
  have hin2 : ¬ ((0 : Int32) < 0 ∨ cl2.slots.size ≤ ((0 : Int32)).toNatClampNeg) := inb_of Sz2 ⟨by decide, by decide⟩
  have pre4 : own_Go p e below S0 (s₁.setTop (mkF m 20 #[.val (.ref a1), .val (.int 0), .val (.ref a2), .val (.int 0), .val (.int 2), .val (.int 0), .val (.int c0)] [(.int 255), (.int c0)])) := by
    intro t kt
    refine pre1 t ?_
    refine X0.caload hx (j := (0 : Int32)) (v := (.int c0)) (by rw [e0]; exact Ar2.1) (State.isArrayOf_alike hZ.alike Ar2.2.1) Ar2.2.2 hin2 (Hs2.at hin2 rfl) (g := (mkF m 12 #[.val (.ref a1), .val (.int 0), .val (.ref a2), .val (.int 0), .val (.int 2), .val (.int 0), .unset] [(.int 0), (.ref a1)])) rfl rfl (hb hby d6_12) _ ?_
    refine XS.istore X0.here hx rfl (hb hby d6_13) rfl (l' := #[.val (.ref a1), .val (.int 0), .val (.ref a2), .val (.int 0), .val (.int 2), .val (.int 0), .val (.int c0)]) rfl ?_
    refine XS.iload X0.here hx rfl (hb hby d6_15) rfl ?_
    refine XS.sipush X0.here hx rfl (hb hby d6_17) ?_
    exact kt
  by_cases hc3 : (255 : Int32) < c0
  · have pre5 : own_Go p e below S0 (s₁.setTop (mkF m 25 #[.val (.ref a1), .val (.int 0), .val (.ref a2), .val (.int 0), .val (.int 2), .val (.int 0), .val (.int c0)] [(.int 0)])) := by
      intro t kt
      refine pre4 t ?_
      refine XS.icmpNo X0.here hx rfl (hb hby d6_20) rfl (tlt hc3).2.2.2 ?_
      refine XS.iload X0.here hx rfl (hb hby d6_23) rfl ?_
      exact kt
    obtain ⟨fs, hr, hrun, hended, hW, hsame⟩ := X0.leave (v := some (.int 0)) (fun h => by rw [Bd.returns] at h; cases h)
    refine ⟨_, _, fin _ (pre5 _ ?_), hrun, hended, _, _, rfl, ?_, ⟨_, rfl⟩, hW, hsame.mono (by decide) (by decide)⟩
    · exact retI X0 hx Bd.returns (hb hby d6_25) hr
    · show Qcmp5_2 Z a1 a2 kc kb c0 c1 h0 n0 _ s₁.heap _
      rw [e0]
      exact ⟨(0 : Int32), rfl, N0, kc0, (Or.inr (Or.inl ⟨rfl, hc3⟩))⟩
  · have pre6 : own_Go p e below S0 (s₁.setTop (mkF m 31 #[.val (.ref a1), .val (.int 0), .val (.ref a2), .val (.int 0), .val (.int 2), .val (.int 0), .val (.int c0)] [(.int (c0.toInt8.toInt32)), (.int 0), (.ref a2)])) := by
      intro t kt
      refine pre4 t ?_
      refine XS.icmpYes X0.here hx rfl (pc0 := 20) (pc' := 26) rfl (hb hby d6_20) rfl (flt hc3).2.2.2 (by decide) (by decide) ?_
      refine XS.aloadN X0.here hx rfl (hb hby d6_26) rfl rfl ?_
      refine XS.iloadN X0.here hx rfl (hb hby d6_27) rfl ?_
      refine XS.iload X0.here hx rfl (hb hby d6_28) rfl ?_
      refine XS.i2b X0.here hx rfl (hb hby d6_30) rfl ?_
      exact kt
    obtain ⟨cl7, Ar7, q7, Sz7, Ng7, Hs7, Gt7⟩ := id VB
    have hin7 : ¬ ((0 : Int32) < 0 ∨ cl7.slots.size ≤ ((0 : Int32)).toNatClampNeg) := inb_of Sz7 ⟨by decide, by decide⟩
    obtain ⟨T7, h7, X7, e7, W7, st7⟩ := stB X0 hx hZ e0 Ar7 (j := (0 : Int32)) hin7 (g := (mkF m 31 #[.val (.ref a1), .val (.int 0), .val (.ref a2), .val (.int 0), .val (.int 2), .val (.int 0), .val (.int c0)] [(.int (c0.toInt8.toInt32)), (.int 0), (.ref a2)])) rfl rfl (hb hby d6_31)
    have N7 := Fr.snoc X7 N0 g2
    have zs8 : n0 ≤ h7.size := Nat.le_trans Z0 (Keep.of_wr W7).1
    have kc9 : Keep h0 h7 [a2] := kc0.wr W7 (Or.inl (List.mem_of_getElem? (i := 0) rfl))
    have V7 : Arv Z h7 a2 kb .byte (2 : Int32) [(.int (nar .byte (c0.toInt8.toInt32))), (.int 0)] (.int 0) := Arv.set Ar7 q7 Sz7 Ng7 Hs7 Gt7 (fits_nar_byte _) W7 0 rfl (Nat.le_of_ble_eq_true rfl)
    have pre10 : own_Go p e below S0 (T7.setTop (mkF m 12 #[.val (.ref a1), .val (.int 1), .val (.ref a2), .val (.int 1), .val (.int 2), .val (.int 1), .val (.int c0)] [(.int 1), (.ref a1)])) := by
      intro t kt
      refine pre6 t ?_
      refine st7 _ ?_
      refine XS.iinc X7.here hx rfl (hb hby d6_32) rfl (l' := #[.val (.ref a1), .val (.int 1), .val (.ref a2), .val (.int 0), .val (.int 2), .val (.int 0), .val (.int c0)]) rfl ?_
      refine XS.iinc X7.here hx rfl (hb hby d6_35) rfl (l' := #[.val (.ref a1), .val (.int 1), .val (.ref a2), .val (.int 1), .val (.int 2), .val (.int 0), .val (.int c0)]) rfl ?_
      refine XS.iinc X7.here hx rfl (hb hby d6_38) rfl (l' := #[.val (.ref a1), .val (.int 1), .val (.ref a2), .val (.int 1), .val (.int 2), .val (.int 1), .val (.int c0)]) rfl ?_
      refine XS.goto X7.here hx rfl (pc0 := 41) (pc' := 3) rfl (hb hby d6_41) (by decide) (by decide) ?_
      refine XS.iload X7.here hx rfl (hb hby d6_3) rfl ?_
      show Steps p.tables e below (T7.setTop (mkF m 5 #[.val (.ref a1), .val (.int 1), .val (.ref a2), .val (.int 1), .val (.int 2), .val (.int 1), .val (.int c0)] [(.int 1)])) _
      refine XS.iload X7.here hx rfl (hb hby d6_5) rfl ?_
      refine XS.icmpNo X7.here hx rfl (hb hby d6_7) rfl (tlt (by decide : (1 : Int32) < (2 : Int32))).2.1 ?_
      refine XS.aloadN X7.here hx rfl (hb hby d6_10) rfl rfl ?_
      refine XS.iloadN X7.here hx rfl (hb hby d6_11) rfl ?_
      exact kt
    have f11 : Arv Z h7 a1 kc .char (2 : Int32) [(.int c0), (.int c1)] (.int 0) := (VC.other W7 n12)
    obtain ⟨cl12, Ar12, -, Sz12, -, Hs12, -⟩ := id f11
    have hin12 : ¬ ((1 : Int32) < 0 ∨ cl12.slots.size ≤ ((1 : Int32)).toNatClampNeg) := inb_of Sz12 ⟨by decide, by decide⟩
    have pre14 : own_Go p e below S0 (T7.setTop (mkF m 20 #[.val (.ref a1), .val (.int 1), .val (.ref a2), .val (.int 1), .val (.int 2), .val (.int 1), .val (.int c1)] [(.int 255), (.int c1)])) := by
      intro t kt
      refine pre10 t ?_
      refine X7.caload hx (j := (1 : Int32)) (v := (.int c1)) (by rw [e7]; exact Ar12.1) (State.isArrayOf_alike hZ.alike Ar12.2.1) Ar12.2.2 hin12 (Hs12.at hin12 rfl) (g := (mkF m 12 #[.val (.ref a1), .val (.int 1), .val (.ref a2), .val (.int 1), .val (.int 2), .val (.int 1), .val (.int c0)] [(.int 1), (.ref a1)])) rfl rfl (hb hby d6_12) _ ?_
      refine XS.istore X7.here hx rfl (hb hby d6_13) rfl (l' := #[.val (.ref a1), .val (.int 1), .val (.ref a2), .val (.int 1), .val (.int 2), .val (.int 1), .val (.int c1)]) rfl ?_
      refine XS.iload X7.here hx rfl (hb hby d6_15) rfl ?_
      refine XS.sipush X7.here hx rfl (hb hby d6_17) ?_
      exact kt
    by_cases hc13 : (255 : Int32) < c1
    · have pre15 : own_Go p e below S0 (T7.setTop (mkF m 25 #[.val (.ref a1), .val (.int 1), .val (.ref a2), .val (.int 1), .val (.int 2), .val (.int 1), .val (.int c1)] [(.int 1)])) := by
        intro t kt
        refine pre14 t ?_
        refine XS.icmpNo X7.here hx rfl (hb hby d6_20) rfl (tlt hc13).2.2.2 ?_
        refine XS.iload X7.here hx rfl (hb hby d6_23) rfl ?_
        exact kt
      obtain ⟨fs, hr, hrun, hended, hW, hsame⟩ := X7.leave (v := some (.int 1)) (fun h => by rw [Bd.returns] at h; cases h)
      refine ⟨_, _, fin _ (pre15 _ ?_), hrun, hended, _, _, rfl, ?_, ⟨_, rfl⟩, hW, hsame.mono (by decide) (by decide)⟩
      · exact retI X7 hx Bd.returns (hb hby d6_25) hr
      · show Qcmp5_2 Z a1 a2 kc kb c0 c1 h0 n0 _ T7.heap _
        rw [e7]
        exact ⟨(1 : Int32), rfl, N7, kc9, (Or.inr (Or.inr (⟨rfl, hc13⟩)))⟩
    · have pre16 : own_Go p e below S0 (T7.setTop (mkF m 31 #[.val (.ref a1), .val (.int 1), .val (.ref a2), .val (.int 1), .val (.int 2), .val (.int 1), .val (.int c1)] [(.int (c1.toInt8.toInt32)), (.int 1), (.ref a2)])) := by
        intro t kt
        refine pre14 t ?_
        refine XS.icmpYes X7.here hx rfl (pc0 := 20) (pc' := 26) rfl (hb hby d6_20) rfl (flt hc13).2.2.2 (by decide) (by decide) ?_
        refine XS.aloadN X7.here hx rfl (hb hby d6_26) rfl rfl ?_
        refine XS.iloadN X7.here hx rfl (hb hby d6_27) rfl ?_
        refine XS.iload X7.here hx rfl (hb hby d6_28) rfl ?_
        refine XS.i2b X7.here hx rfl (hb hby d6_30) rfl ?_
        exact kt
      obtain ⟨cl17, Ar17, q17, Sz17, Ng17, Hs17, Gt17⟩ := id V7
      have hin17 : ¬ ((1 : Int32) < 0 ∨ cl17.slots.size ≤ ((1 : Int32)).toNatClampNeg) := inb_of Sz17 ⟨by decide, by decide⟩
      obtain ⟨T17, h17, X17, e17, W17, st17⟩ := stB X7 hx hZ e7 Ar17 (j := (1 : Int32)) hin17 (g := (mkF m 31 #[.val (.ref a1), .val (.int 1), .val (.ref a2), .val (.int 1), .val (.int 2), .val (.int 1), .val (.int c1)] [(.int (c1.toInt8.toInt32)), (.int 1), (.ref a2)])) rfl rfl (hb hby d6_31)
      have N17 := Fr.snoc X17 N7 g2
      have zs18 : n0 ≤ h17.size := Nat.le_trans zs8 (Keep.of_wr W17).1
      have kc19 : Keep h0 h17 [a2] := kc9.wr W17 (Or.inl (List.mem_of_getElem? (i := 0) rfl))
      have V17 : Arv Z h17 a2 kb .byte (2 : Int32) [(.int (nar .byte (c0.toInt8.toInt32))), (.int (nar .byte (c1.toInt8.toInt32)))] (.int 0) := Arv.set Ar17 q17 Sz17 Ng17 Hs17 Gt17 (fits_nar_byte _) W17 1 rfl (Nat.le_of_ble_eq_true rfl)
      have pre20 : own_Go p e below S0 (T17.setTop (mkF m 46 #[.val (.ref a1), .val (.int 2), .val (.ref a2), .val (.int 2), .val (.int 2), .val (.int 2), .val (.int c1)] [(.int 2)])) := by
        intro t kt
        refine pre16 t ?_
        refine st17 _ ?_
        refine XS.iinc X17.here hx rfl (hb hby d6_32) rfl (l' := #[.val (.ref a1), .val (.int 2), .val (.ref a2), .val (.int 1), .val (.int 2), .val (.int 1), .val (.int c1)]) rfl ?_
        refine XS.iinc X17.here hx rfl (hb hby d6_35) rfl (l' := #[.val (.ref a1), .val (.int 2), .val (.ref a2), .val (.int 2), .val (.int 2), .val (.int 1), .val (.int c1)]) rfl ?_
        refine XS.iinc X17.here hx rfl (hb hby d6_38) rfl (l' := #[.val (.ref a1), .val (.int 2), .val (.ref a2), .val (.int 2), .val (.int 2), .val (.int 2), .val (.int c1)]) rfl ?_
        refine XS.goto X17.here hx rfl (pc0 := 41) (pc' := 3) rfl (hb hby d6_41) (by decide) (by decide) ?_
        refine XS.iload X17.here hx rfl (hb hby d6_3) rfl ?_
        show Steps p.tables e below (T17.setTop (mkF m 5 #[.val (.ref a1), .val (.int 2), .val (.ref a2), .val (.int 2), .val (.int 2), .val (.int 2), .val (.int c1)] [(.int 2)])) _
        refine XS.iload X17.here hx rfl (hb hby d6_5) rfl ?_
        refine XS.icmpYes X17.here hx rfl (pc0 := 7) (pc' := 44) rfl (hb hby d6_7) rfl (flt (by decide : ¬ ((2 : Int32) < (2 : Int32)))).2.1 (by decide) (by decide) ?_
        refine XS.iload X17.here hx rfl (hb hby d6_44) rfl ?_
        exact kt
      obtain ⟨fs, hr, hrun, hended, hW, hsame⟩ := X17.leave (v := some (.int 2)) (fun h => by rw [Bd.returns] at h; cases h)
      refine ⟨_, _, fin _ (pre20 _ ?_), hrun, hended, _, _, rfl, ?_, ⟨_, rfl⟩, hW, hsame.mono (by decide) (by decide)⟩
      · exact retI X17 hx Bd.returns (hb hby d6_46) hr
      · show Qcmp5_2 Z a1 a2 kc kb c0 c1 h0 n0 _ T17.heap _
        rw [e17]
        exact ⟨(2 : Int32), rfl, N17, kc19, (Or.inl ⟨rfl, ⟨⟨(own_fitAt VC 0 (by decide) rfl).1, own_ltOf hc3⟩, ⟨⟨(own_fitAt VC 1 (by decide) rfl).1, own_ltOf hc13⟩, trivial⟩⟩, V17⟩)⟩

theorem ef_nfor_2 (m : MethodId)  : entryFrame m #[(.int 2)] 1 = mkF m 0 #[.val (.int 2)] [] := by first | (simp [entryFrame, mkF, argsToLocals, Value.category]; done) | rfl
def Qnfor_2 (Z : State)  (h0 : Heap) (n0 : Nat) (v : Option Value) (h : Heap) (L : List Loc) : Prop := ∃ b : Addr, ∃ kb : ClassId, v = (some (.ref b)) ∧ Fr n0 L ∧ Keep h0 h [] ∧ h0.size ≤ b ∧ Arv Z h b kb .byte (4 : Int32) [(.int 0), (.int 0), (.int 0), (.int 0)] (.int 0)
set_option maxRecDepth 65536 in
set_option maxHeartbeats 40000000 in
theorem rmnfor_2 (l : Launch) (Z : State) (a0 : Array Value) (hw : ∀ d ∈ tables_1, d.before a0 Z = true) (ws : List Jvm.Cond)  (h0 : Heap) (n0 : Nat) (Z0 : n0 ≤ h0.size) :
    MetFree l own_m27 (head1 (Jvm.Cond.code own_m27 jdk_52_method_2_code 1 (some (.array .byte)) :: ws) (own_r 1 1 4 12)) (fun a U => a = #[(.int 2)] ∧ Z.Warmed39 U.vm ∧ U.heap = h0) (fun _ _ _ _ _ => True) (fun _ U o U' => ∃ v L, o = .returned v ∧ Qnfor_2 Z  h0 n0 v U'.heap L ∧ FrameEnd U o U' L (own_r 1 1 4 12).cells (own_r 1 1 4 12).slots) := by
  refine MetFree.of_bodySF (plainFor_of_name pn_27) hisR ?_
  intro p e s m args below meth c s₁ Bd hml0 hP hK
  obtain ⟨rfl, hZ, hh⟩ := hP
  have hx := Bd.exec
  have hby := Bd.bytes
  have hml : c.maxLocals = 1 := hml0
  have hown0 := findClass_of_methodNamed Bd.named
  have hown : s.vm.findClass "java/lang/StringUTF16" = some m.cls := hown0
  have hnm := (name_of_methodNamed Bd.named Bd.method).1
  have X0 : Stand p l e (own_r 1 1 4 12) s m #[(.int 2)] below meth c s₁ [] 0 0 := Stand.of_body Bd
  have e0 : s₁.heap = h0 := by rw [← hh, Bd.state]; rfl
  have N0 := Fr.nil n0
  obtain ⟨S0, hS0⟩ : ∃ z, z = s₁.setTop (entryFrame m #[(.int 2)] 1) := ⟨_, rfl⟩
  have pre0 : own_Go p e below S0 (s₁.setTop (mkF m 0 #[.val (.int 2)] [])) := fun t k => by rw [hS0]; exact castTop (ef_nfor_2 m ) k
  have fin : ∀ t, Steps p.tables e below S0 t → Steps p.tables e below (s₁.setTop (entryFrame m #[(.int 2)] 1)) t := fun t k => by rw [hS0] at k; exact k
  have kc0 : Keep h0 h0 [] := Keep.refl _ _
  have pre1 : own_Go p e below S0 (s₁.setTop (mkF m 1 #[.val (.int 2)] [(.int 2)])) := by
    intro t kt
    refine pre0 t ?_
    refine XS.iloadN X0.here hx rfl (hb hby d27_0) rfl ?_
    exact kt
  obtain ⟨_, _, ⟨T2, L2, k2, n2⟩, -, X2, ⟨Lc2, hQ2, l2, y2, z2⟩, st2⟩ := Jvm.LawKit.callS X0 hx (y := own_m28) hown (mvT hZ (hw _ (own_w 125 rfl))) (mvT hZ (hw _ (own_w 126 rfl))) (mvT hZ (hw _ (own_w 26 rfl))) (mvT hZ (hw _ (own_w 127 rfl))) (by decide) (backOf (W := 0) (rmnlen l Z a0 hw [] (2 : Int32) h0 n0 Z0 (by decide) (by decide)) hZ (hw _ (own_w 127 rfl)) (hw _ (own_w 26 rfl)) (by decide) (by decide)) (g := (mkF m 1 #[.val (.int 2)] [(.int 2)])) rfl (by rw [hml]; rfl) (argsL := [(.int 2)]) (rest := []) (lenOf pd_1 rfl) rfl (by show 2 * 0 + _ ≤ _; exact Nat.le_of_eq rfl) (hb hby d27_1) (fun _ _ => ⟨rfl, e0, (by decide : 0 + 0 ≤ _), (by decide : 0 + 0 ≤ _)⟩)
  dsimp only [Pt.U, Pt.locs, Pt.cells, Pt.slots] at X2 l2 y2 z2 st2 hQ2
  subst l2 y2 z2
  obtain ⟨rfl, Nq2, eq2⟩ := hQ2
  have N2 := Fr.app N0 Nq2
  have pre3 : own_Go p e below S0 (T2.setTop (mkF m 4 #[.val (.int 2)] [(.int (own_nbl (2 : Int32)))])) := by
    intro t kt
    refine pre1 t ?_
    refine st2 _ ?_
    show Steps p.tables e below (T2.setTop (mkF m 4 #[.val (.int 2)] [(.int (own_nbl (2 : Int32)))])) _
    exact kt
  have pre4 : own_Go p e below S0 (T2.setTop (mkF m 4 #[.val (.int 2)] [(.int 4)])) := by
    intro t kt
    refine pre3 t ?_
    rw [(by decide : (own_nbl (2 : Int32)) = (4 : Int32))]
    exact kt
  obtain ⟨T5, h5, k5, X5, e5, E5, A5, st5⟩ := newP X2 hx hZ (hw _ (own_w 28 rfl)) eq2 (g := (mkF m 4 #[.val (.int 2)] [(.int 4)])) rfl (hb hby d27_4) rfl (by decide) (cap := 4) (by decide) (by decide) (by decide) (by decide)
  obtain ⟨b5, g5⟩ : ∃ z, z = h0.size := ⟨_, rfl⟩
  rw [← g5] at A5 st5
  have ge6 : n0 ≤ b5 := Nat.le_trans Z0 (Nat.le_of_eq g5.symm)
  have sz7 : h0.size ≤ b5 := Nat.le_trans kc0.1 (Nat.le_of_eq g5.symm)
  have zs8 : n0 ≤ h5.size := Nat.le_trans Z0 E5.1
  have kc9 : Keep h0 h5 [] := kc0.ext E5
  have V5 : Arv Z h5 b5 k5 .byte (4 : Int32) [(.int 0), (.int 0), (.int 0), (.int 0)] (.int 0) := (Arv.new A5 (by decide)).pad (pad_rep [] (.int 0) 4)
  have pre10 : own_Go p e below S0 (T5.setTop (mkF m 6 #[.val (.int 2)] [(.ref b5)])) := by
    intro t kt
    refine pre4 t ?_
    refine st5 _ ?_
    exact kt
  obtain ⟨fs, hr, hrun, hended, hW, hsame⟩ := X5.leave (v := some (.ref b5)) (fun h => by rw [Bd.returns] at h; cases h)
  refine ⟨_, _, fin _ (pre10 _ ?_), hrun, hended, _, _, rfl, ?_, ⟨_, rfl⟩, hW, hsame.mono (by decide) (by decide)⟩
  · jvm_step X5.here [X5.here.top, hx, (hb hby d27_6), X5.method', Bd.returns, Value.isRef, FieldType.isReference]
    first | (intro acts; rw [hr _ acts rfl rfl rfl]) | rw [hr _ _ rfl rfl rfl]
    exact Steps.refl _
  · show Qnfor_2 Z  h0 n0 _ T5.heap _
    rw [e5]
    exact ⟨b5, k5, rfl, N2, kc9, sz7, V5⟩

theorem ef_putc_0_4 (m : MethodId) (x0 : Addr) (x2 : Int32) : entryFrame m #[(.ref x0), (.int 0), (.int x2)] 3 = mkF m 0 #[.val (.ref x0), .val (.int 0), .val (.int x2)] [] := by first | (simp [entryFrame, mkF, argsToLocals, Value.category]; done) | rfl
def Qputc_0_4 (Z : State) (a1 : Addr) (p3 : Int32) (k1 : ClassId) (u0 : Value) (u1 : Value) (u2 : Value) (u3 : Value) (h0 : Heap) (n0 : Nat) (v : Option Value) (h : Heap) (L : List Loc) : Prop := v = none ∧ Fr n0 L ∧ Keep h0 h [a1] ∧ Arv Z h a1 k1 .byte (4 : Int32) [(.int (nar .byte ((p3 >>> ((0 : Int32) &&& 31)).toInt8.toInt32))), (.int (nar .byte ((p3 >>> ((8 : Int32) &&& 31)).toInt8.toInt32))), u2, u3] (.int 0)
set_option maxRecDepth 65536 in
set_option maxHeartbeats 40000000 in
theorem rmputc_0_4 (l : Launch) (Z : State) (a0 : Array Value) (hw : ∀ d ∈ tables_1, d.before a0 Z = true) (ws : List Jvm.Cond) (a1 : Addr) (p3 : Int32) (k1 : ClassId) (u0 : Value) (u1 : Value) (u2 : Value) (u3 : Value) (h0 : Heap) (n0 : Nat) (Z0 : n0 ≤ h0.size) (O0 : Old Z n0 h0) (qU : (own_SU Z)) (g1 : n0 ≤ a1) (V1 : Arv Z h0 a1 k1 .byte (4 : Int32) [u0, u1, u2, u3] (.int 0)) :
    MetFree l own_m29 (head1 (Jvm.Cond.code own_m29 jdk_52_method_4_code 3 none :: ws) (own_r 0 0 0 0)) (fun a U => a = #[(.ref a1), (.int 0), (.int p3)] ∧ Z.Warmed39 U.vm ∧ U.heap = h0) (fun _ _ _ _ _ => True) (fun _ U o U' => ∃ v L, o = .returned v ∧ Qputc_0_4 Z a1 p3 k1 u0 u1 u2 u3 h0 n0 v U'.heap L ∧ FrameEnd U o U' L (own_r 0 0 0 0).cells (own_r 0 0 0 0).slots) := by
  refine MetFree.of_bodySF (plainFor_of_name pn_29) hisR ?_
  intro p e s m args below meth c s₁ Bd hml0 hP hK
  obtain ⟨rfl, hZ, hh⟩ := hP
  have hx := Bd.exec
  have hby := Bd.bytes
  have hml : c.maxLocals = 3 := hml0
  have hown0 := findClass_of_methodNamed Bd.named
  have hown : s.vm.findClass "java/lang/StringUTF16" = some m.cls := hown0
  have hnm := (name_of_methodNamed Bd.named Bd.method).1
  have X0 : Stand p l e (own_r 0 0 0 0) s m #[(.ref a1), (.int 0), (.int p3)] below meth c s₁ [] 0 0 := Stand.of_body Bd
  have e0 : s₁.heap = h0 := by rw [← hh, Bd.state]; rfl
  have N0 := Fr.nil n0
  obtain ⟨S0, hS0⟩ : ∃ z, z = s₁.setTop (entryFrame m #[(.ref a1), (.int 0), (.int p3)] 3) := ⟨_, rfl⟩
  have pre0 : own_Go p e below S0 (s₁.setTop (mkF m 0 #[.val (.ref a1), .val (.int 0), .val (.int p3)] [])) := fun t k => by rw [hS0]; exact castTop (ef_putc_0_4 m a1 p3) k
  have fin : ∀ t, Steps p.tables e below S0 t → Steps p.tables e below (s₁.setTop (entryFrame m #[(.ref a1), (.int 0), (.int p3)] 3)) t := fun t k => by rw [hS0] at k; exact k
  have kc0 : Keep h0 h0 [a1] := Keep.refl _ _
  obtain ⟨T1, X1, e1, st1⟩ := getS2 X0 hx hZ hown (host := "") (Or.inl (hw _ (own_w 132 rfl))) Via.refl e0 (qU.1.ext O0.2) (g := (mkF m 0 #[.val (.ref a1), .val (.int 0), .val (.int p3)] [])) rfl (hb hby d29_0)
  have pre2 : own_Go p e below S0 (T1.setTop (mkF m 38 #[.val (.ref a1), .val (.int 1), .val (.int p3)] [(.int p3), (.int 0), (.ref a1)])) := by
    intro t kt
    refine pre0 t ?_
    refine st1 _ ?_
    refine XS.ifYes X1.here hx rfl (pc0 := 3) (pc' := 28) rfl (hb hby d29_3) rfl ((if0 _ _).trans (feq (by decide : ¬ ((1 : Int32) = (0 : Int32)))).2) (by decide) (by decide) ?_
    refine XS.iloadN X1.here hx rfl (hb hby d29_28) rfl ?_
    refine XS.iconst X1.here hx rfl (hb hby d29_29) ?_
    refine XS.ishl X1.here hx rfl (hb hby d29_30) rfl ?_
    refine XS.istoreN X1.here hx rfl (hb hby d29_31) rfl (l' := #[.val (.ref a1), .val (.int 0), .val (.int p3)]) rfl ?_
    show Steps p.tables e below (T1.setTop (mkF m 32 #[.val (.ref a1), .val (.int 0), .val (.int p3)] [])) _
    refine XS.aloadN X1.here hx rfl (hb hby d29_32) rfl rfl ?_
    refine XS.iloadN X1.here hx rfl (hb hby d29_33) rfl ?_
    refine XS.iinc X1.here hx rfl (hb hby d29_34) rfl (l' := #[.val (.ref a1), .val (.int 1), .val (.int p3)]) rfl ?_
    refine XS.iloadN X1.here hx rfl (hb hby d29_37) rfl ?_
    exact kt
  obtain ⟨T3, X3, e3, st3⟩ := getS2 X1 hx hZ hown (host := "") (Or.inl (hw _ (own_w 133 rfl))) Via.refl e1 (qU.2.1.ext O0.2) (g := (mkF m 38 #[.val (.ref a1), .val (.int 1), .val (.int p3)] [(.int p3), (.int 0), (.ref a1)])) rfl (hb hby d29_38)
  have pre4 : own_Go p e below S0 (T3.setTop (mkF m 43 #[.val (.ref a1), .val (.int 1), .val (.int p3)] [(.int ((p3 >>> ((0 : Int32) &&& 31)).toInt8.toInt32)), (.int 0), (.ref a1)])) := by
    intro t kt
    refine pre2 t ?_
    refine st3 _ ?_
    refine XS.ishr X3.here hx rfl (hb hby d29_41) rfl ?_
    refine XS.i2b X3.here hx rfl (hb hby d29_42) rfl ?_
    exact kt
  obtain ⟨cl5, Ar5, q5, Sz5, Ng5, Hs5, Gt5⟩ := id V1
  have hin5 : ¬ ((0 : Int32) < 0 ∨ cl5.slots.size ≤ ((0 : Int32)).toNatClampNeg) := inb_of Sz5 ⟨by decide, by decide⟩
  obtain ⟨T5, h5, X5, e5, W5, st5⟩ := stB X3 hx hZ e3 Ar5 (j := (0 : Int32)) hin5 (g := (mkF m 43 #[.val (.ref a1), .val (.int 1), .val (.int p3)] [(.int ((p3 >>> ((0 : Int32) &&& 31)).toInt8.toInt32)), (.int 0), (.ref a1)])) rfl rfl (hb hby d29_43)
  have N5 := Fr.snoc X5 N0 g1
  have zs6 : n0 ≤ h5.size := Nat.le_trans Z0 (Keep.of_wr W5).1
  have kc7 : Keep h0 h5 [a1] := kc0.wr W5 (Or.inl (List.mem_of_getElem? (i := 0) rfl))
  have V5 : Arv Z h5 a1 k1 .byte (4 : Int32) [(.int (nar .byte ((p3 >>> ((0 : Int32) &&& 31)).toInt8.toInt32))), u1, u2, u3] (.int 0) := Arv.set Ar5 q5 Sz5 Ng5 Hs5 Gt5 (fits_nar_byte _) W5 0 rfl (Nat.le_of_ble_eq_true rfl)
  have pre8 : own_Go p e below S0 (T5.setTop (mkF m 47 #[.val (.ref a1), .val (.int 1), .val (.int p3)] [(.int p3), (.int 1), (.ref a1)])) := by
    intro t kt
    refine pre4 t ?_
    refine st5 _ ?_
    refine XS.aloadN X5.here hx rfl (hb hby d29_44) rfl rfl ?_
    refine XS.iloadN X5.here hx rfl (hb hby d29_45) rfl ?_
    refine XS.iloadN X5.here hx rfl (hb hby d29_46) rfl ?_
    exact kt
  have f9 : Old Z n0 h5 := (O0.wr W5 g1)
  obtain ⟨T10, X10, e10, st10⟩ := getS2 X5 hx hZ hown (host := "") (Or.inl (hw _ (own_w 134 rfl))) Via.refl e5 (qU.2.2.ext f9.2) (g := (mkF m 47 #[.val (.ref a1), .val (.int 1), .val (.int p3)] [(.int p3), (.int 1), (.ref a1)])) rfl (hb hby d29_47)
  have pre11 : own_Go p e below S0 (T10.setTop (mkF m 52 #[.val (.ref a1), .val (.int 1), .val (.int p3)] [(.int ((p3 >>> ((8 : Int32) &&& 31)).toInt8.toInt32)), (.int 1), (.ref a1)])) := by
    intro t kt
    refine pre8 t ?_
    refine st10 _ ?_
    refine XS.ishr X10.here hx rfl (hb hby d29_50) rfl ?_
    refine XS.i2b X10.here hx rfl (hb hby d29_51) rfl ?_
    exact kt
  obtain ⟨cl12, Ar12, q12, Sz12, Ng12, Hs12, Gt12⟩ := id V5
  have hin12 : ¬ ((1 : Int32) < 0 ∨ cl12.slots.size ≤ ((1 : Int32)).toNatClampNeg) := inb_of Sz12 ⟨by decide, by decide⟩
  obtain ⟨T12, h12, X12, e12, W12, st12⟩ := stB X10 hx hZ e10 Ar12 (j := (1 : Int32)) hin12 (g := (mkF m 52 #[.val (.ref a1), .val (.int 1), .val (.int p3)] [(.int ((p3 >>> ((8 : Int32) &&& 31)).toInt8.toInt32)), (.int 1), (.ref a1)])) rfl rfl (hb hby d29_52)
  have N12 := Fr.snoc X12 N5 g1
  have zs13 : n0 ≤ h12.size := Nat.le_trans zs6 (Keep.of_wr W12).1
  have kc14 : Keep h0 h12 [a1] := kc7.wr W12 (Or.inl (List.mem_of_getElem? (i := 0) rfl))
  have V12 : Arv Z h12 a1 k1 .byte (4 : Int32) [(.int (nar .byte ((p3 >>> ((0 : Int32) &&& 31)).toInt8.toInt32))), (.int (nar .byte ((p3 >>> ((8 : Int32) &&& 31)).toInt8.toInt32))), u2, u3] (.int 0) := Arv.set Ar12 q12 Sz12 Ng12 Hs12 Gt12 (fits_nar_byte _) W12 1 rfl (Nat.le_of_ble_eq_true rfl)
  have pre15 : own_Go p e below S0 (T12.setTop (mkF m 53 #[.val (.ref a1), .val (.int 1), .val (.int p3)] [])) := by
    intro t kt
    refine pre11 t ?_
    refine st12 _ ?_
    exact kt
  obtain ⟨fs, hr, hrun, hended, hW, hsame⟩ := X12.leave (v := none) (fun _ => rfl)
  refine ⟨_, _, fin _ (pre15 _ ?_), hrun, hended, _, _, rfl, ?_, ⟨_, rfl⟩, hW, hsame.mono (by decide) (by decide)⟩
  · exact X12.returnOut hx Bd.returns (hb hby d29_53) hr
  · show Qputc_0_4 Z a1 p3 k1 u0 u1 u2 u3 h0 n0 _ T12.heap _
    rw [e12]
    exact ⟨rfl, N12, kc14, V12⟩

theorem ef_putc_1_4 (m : MethodId) (x0 : Addr) (x2 : Int32) : entryFrame m #[(.ref x0), (.int 1), (.int x2)] 3 = mkF m 0 #[.val (.ref x0), .val (.int 1), .val (.int x2)] [] := by first | (simp [entryFrame, mkF, argsToLocals, Value.category]; done) | rfl
def Qputc_1_4 (Z : State) (a1 : Addr) (p3 : Int32) (k1 : ClassId) (u0 : Value) (u1 : Value) (u2 : Value) (u3 : Value) (h0 : Heap) (n0 : Nat) (v : Option Value) (h : Heap) (L : List Loc) : Prop := v = none ∧ Fr n0 L ∧ Keep h0 h [a1] ∧ Arv Z h a1 k1 .byte (4 : Int32) [u0, u1, (.int (nar .byte ((p3 >>> ((0 : Int32) &&& 31)).toInt8.toInt32))), (.int (nar .byte ((p3 >>> ((8 : Int32) &&& 31)).toInt8.toInt32)))] (.int 0)
set_option maxRecDepth 65536 in
set_option maxHeartbeats 40000000 in
theorem rmputc_1_4 (l : Launch) (Z : State) (a0 : Array Value) (hw : ∀ d ∈ tables_1, d.before a0 Z = true) (ws : List Jvm.Cond) (a1 : Addr) (p3 : Int32) (k1 : ClassId) (u0 : Value) (u1 : Value) (u2 : Value) (u3 : Value) (h0 : Heap) (n0 : Nat) (Z0 : n0 ≤ h0.size) (O0 : Old Z n0 h0) (qU : (own_SU Z)) (g1 : n0 ≤ a1) (V1 : Arv Z h0 a1 k1 .byte (4 : Int32) [u0, u1, u2, u3] (.int 0)) :
    MetFree l own_m29 (head1 (Jvm.Cond.code own_m29 jdk_52_method_4_code 3 none :: ws) (own_r 0 0 0 0)) (fun a U => a = #[(.ref a1), (.int 1), (.int p3)] ∧ Z.Warmed39 U.vm ∧ U.heap = h0) (fun _ _ _ _ _ => True) (fun _ U o U' => ∃ v L, o = .returned v ∧ Qputc_1_4 Z a1 p3 k1 u0 u1 u2 u3 h0 n0 v U'.heap L ∧ FrameEnd U o U' L (own_r 0 0 0 0).cells (own_r 0 0 0 0).slots) := by
  refine MetFree.of_bodySF (plainFor_of_name pn_29) hisR ?_
  intro p e s m args below meth c s₁ Bd hml0 hP hK
  obtain ⟨rfl, hZ, hh⟩ := hP
  have hx := Bd.exec
  have hby := Bd.bytes
  have hml : c.maxLocals = 3 := hml0
  have hown0 := findClass_of_methodNamed Bd.named
  have hown : s.vm.findClass "java/lang/StringUTF16" = some m.cls := hown0
  have hnm := (name_of_methodNamed Bd.named Bd.method).1
  have X0 : Stand p l e (own_r 0 0 0 0) s m #[(.ref a1), (.int 1), (.int p3)] below meth c s₁ [] 0 0 := Stand.of_body Bd
  have e0 : s₁.heap = h0 := by rw [← hh, Bd.state]; rfl
  have N0 := Fr.nil n0
  obtain ⟨S0, hS0⟩ : ∃ z, z = s₁.setTop (entryFrame m #[(.ref a1), (.int 1), (.int p3)] 3) := ⟨_, rfl⟩
  have pre0 : own_Go p e below S0 (s₁.setTop (mkF m 0 #[.val (.ref a1), .val (.int 1), .val (.int p3)] [])) := fun t k => by rw [hS0]; exact castTop (ef_putc_1_4 m a1 p3) k
  have fin : ∀ t, Steps p.tables e below S0 t → Steps p.tables e below (s₁.setTop (entryFrame m #[(.ref a1), (.int 1), (.int p3)] 3)) t := fun t k => by rw [hS0] at k; exact k
  have kc0 : Keep h0 h0 [a1] := Keep.refl _ _
  obtain ⟨T1, X1, e1, st1⟩ := getS2 X0 hx hZ hown (host := "") (Or.inl (hw _ (own_w 132 rfl))) Via.refl e0 (qU.1.ext O0.2) (g := (mkF m 0 #[.val (.ref a1), .val (.int 1), .val (.int p3)] [])) rfl (hb hby d29_0)
  have pre2 : own_Go p e below S0 (T1.setTop (mkF m 38 #[.val (.ref a1), .val (.int 3), .val (.int p3)] [(.int p3), (.int 2), (.ref a1)])) := by
    intro t kt
    refine pre0 t ?_
    refine st1 _ ?_
    refine XS.ifYes X1.here hx rfl (pc0 := 3) (pc' := 28) rfl (hb hby d29_3) rfl ((if0 _ _).trans (feq (by decide : ¬ ((1 : Int32) = (0 : Int32)))).2) (by decide) (by decide) ?_
    refine XS.iloadN X1.here hx rfl (hb hby d29_28) rfl ?_
    refine XS.iconst X1.here hx rfl (hb hby d29_29) ?_
    refine XS.ishl X1.here hx rfl (hb hby d29_30) rfl ?_
    refine XS.istoreN X1.here hx rfl (hb hby d29_31) rfl (l' := #[.val (.ref a1), .val (.int 2), .val (.int p3)]) rfl ?_
    show Steps p.tables e below (T1.setTop (mkF m 32 #[.val (.ref a1), .val (.int 2), .val (.int p3)] [])) _
    refine XS.aloadN X1.here hx rfl (hb hby d29_32) rfl rfl ?_
    refine XS.iloadN X1.here hx rfl (hb hby d29_33) rfl ?_
    refine XS.iinc X1.here hx rfl (hb hby d29_34) rfl (l' := #[.val (.ref a1), .val (.int 3), .val (.int p3)]) rfl ?_
    refine XS.iloadN X1.here hx rfl (hb hby d29_37) rfl ?_
    exact kt
  obtain ⟨T3, X3, e3, st3⟩ := getS2 X1 hx hZ hown (host := "") (Or.inl (hw _ (own_w 133 rfl))) Via.refl e1 (qU.2.1.ext O0.2) (g := (mkF m 38 #[.val (.ref a1), .val (.int 3), .val (.int p3)] [(.int p3), (.int 2), (.ref a1)])) rfl (hb hby d29_38)
  have pre4 : own_Go p e below S0 (T3.setTop (mkF m 43 #[.val (.ref a1), .val (.int 3), .val (.int p3)] [(.int ((p3 >>> ((0 : Int32) &&& 31)).toInt8.toInt32)), (.int 2), (.ref a1)])) := by
    intro t kt
    refine pre2 t ?_
    refine st3 _ ?_
    refine XS.ishr X3.here hx rfl (hb hby d29_41) rfl ?_
    refine XS.i2b X3.here hx rfl (hb hby d29_42) rfl ?_
    exact kt
  obtain ⟨cl5, Ar5, q5, Sz5, Ng5, Hs5, Gt5⟩ := id V1
  have hin5 : ¬ ((2 : Int32) < 0 ∨ cl5.slots.size ≤ ((2 : Int32)).toNatClampNeg) := inb_of Sz5 ⟨by decide, by decide⟩
  obtain ⟨T5, h5, X5, e5, W5, st5⟩ := stB X3 hx hZ e3 Ar5 (j := (2 : Int32)) hin5 (g := (mkF m 43 #[.val (.ref a1), .val (.int 3), .val (.int p3)] [(.int ((p3 >>> ((0 : Int32) &&& 31)).toInt8.toInt32)), (.int 2), (.ref a1)])) rfl rfl (hb hby d29_43)
  have N5 := Fr.snoc X5 N0 g1
  have zs6 : n0 ≤ h5.size := Nat.le_trans Z0 (Keep.of_wr W5).1
  have kc7 : Keep h0 h5 [a1] := kc0.wr W5 (Or.inl (List.mem_of_getElem? (i := 0) rfl))
  have V5 : Arv Z h5 a1 k1 .byte (4 : Int32) [u0, u1, (.int (nar .byte ((p3 >>> ((0 : Int32) &&& 31)).toInt8.toInt32))), u3] (.int 0) := Arv.set Ar5 q5 Sz5 Ng5 Hs5 Gt5 (fits_nar_byte _) W5 2 rfl (Nat.le_of_ble_eq_true rfl)
  have pre8 : own_Go p e below S0 (T5.setTop (mkF m 47 #[.val (.ref a1), .val (.int 3), .val (.int p3)] [(.int p3), (.int 3), (.ref a1)])) := by
    intro t kt
    refine pre4 t ?_
    refine st5 _ ?_
    refine XS.aloadN X5.here hx rfl (hb hby d29_44) rfl rfl ?_
    refine XS.iloadN X5.here hx rfl (hb hby d29_45) rfl ?_
    refine XS.iloadN X5.here hx rfl (hb hby d29_46) rfl ?_
    exact kt
  have f9 : Old Z n0 h5 := (O0.wr W5 g1)
  obtain ⟨T10, X10, e10, st10⟩ := getS2 X5 hx hZ hown (host := "") (Or.inl (hw _ (own_w 134 rfl))) Via.refl e5 (qU.2.2.ext f9.2) (g := (mkF m 47 #[.val (.ref a1), .val (.int 3), .val (.int p3)] [(.int p3), (.int 3), (.ref a1)])) rfl (hb hby d29_47)
  have pre11 : own_Go p e below S0 (T10.setTop (mkF m 52 #[.val (.ref a1), .val (.int 3), .val (.int p3)] [(.int ((p3 >>> ((8 : Int32) &&& 31)).toInt8.toInt32)), (.int 3), (.ref a1)])) := by
    intro t kt
    refine pre8 t ?_
    refine st10 _ ?_
    refine XS.ishr X10.here hx rfl (hb hby d29_50) rfl ?_
    refine XS.i2b X10.here hx rfl (hb hby d29_51) rfl ?_
    exact kt
  obtain ⟨cl12, Ar12, q12, Sz12, Ng12, Hs12, Gt12⟩ := id V5
  have hin12 : ¬ ((3 : Int32) < 0 ∨ cl12.slots.size ≤ ((3 : Int32)).toNatClampNeg) := inb_of Sz12 ⟨by decide, by decide⟩
  obtain ⟨T12, h12, X12, e12, W12, st12⟩ := stB X10 hx hZ e10 Ar12 (j := (3 : Int32)) hin12 (g := (mkF m 52 #[.val (.ref a1), .val (.int 3), .val (.int p3)] [(.int ((p3 >>> ((8 : Int32) &&& 31)).toInt8.toInt32)), (.int 3), (.ref a1)])) rfl rfl (hb hby d29_52)
  have N12 := Fr.snoc X12 N5 g1
  have zs13 : n0 ≤ h12.size := Nat.le_trans zs6 (Keep.of_wr W12).1
  have kc14 : Keep h0 h12 [a1] := kc7.wr W12 (Or.inl (List.mem_of_getElem? (i := 0) rfl))
  have V12 : Arv Z h12 a1 k1 .byte (4 : Int32) [u0, u1, (.int (nar .byte ((p3 >>> ((0 : Int32) &&& 31)).toInt8.toInt32))), (.int (nar .byte ((p3 >>> ((8 : Int32) &&& 31)).toInt8.toInt32)))] (.int 0) := Arv.set Ar12 q12 Sz12 Ng12 Hs12 Gt12 (fits_nar_byte _) W12 3 rfl (Nat.le_of_ble_eq_true rfl)
  have pre15 : own_Go p e below S0 (T12.setTop (mkF m 53 #[.val (.ref a1), .val (.int 3), .val (.int p3)] [])) := by
    intro t kt
    refine pre11 t ?_
    refine st12 _ ?_
    exact kt
  obtain ⟨fs, hr, hrun, hended, hW, hsame⟩ := X12.leave (v := none) (fun _ => rfl)
  refine ⟨_, _, fin _ (pre15 _ ?_), hrun, hended, _, _, rfl, ?_, ⟨_, rfl⟩, hW, hsame.mono (by decide) (by decide)⟩
  · exact X12.returnOut hx Bd.returns (hb hby d29_53) hr
  · show Qputc_1_4 Z a1 p3 k1 u0 u1 u2 u3 h0 n0 _ T12.heap _
    rw [e12]
    exact ⟨rfl, N12, kc14, V12⟩

theorem ef_toB_2 (m : MethodId) (x0 : Addr) : entryFrame m #[(.ref x0), (.int 0), (.int 2)] 5 = mkF m 0 #[.val (.ref x0), .val (.int 0), .val (.int 2), .unset, .unset] [] := by first | (simp [entryFrame, mkF, argsToLocals, Value.category]; done) | rfl
def QtoB_2 (Z : State) (a1 : Addr) (kc : ClassId) (c0 : Int32) (c1 : Int32) (h0 : Heap) (n0 : Nat) (v : Option Value) (h : Heap) (L : List Loc) : Prop := ∃ b : Addr, ∃ kb : ClassId, v = (some (.ref b)) ∧ Fr n0 L ∧ Keep h0 h [] ∧ h0.size ≤ b ∧ Arv Z h b kb .byte (4 : Int32) [(.int (nar .byte ((c0 >>> ((0 : Int32) &&& 31)).toInt8.toInt32))), (.int (nar .byte ((c0 >>> ((8 : Int32) &&& 31)).toInt8.toInt32))), (.int (nar .byte ((c1 >>> ((0 : Int32) &&& 31)).toInt8.toInt32))), (.int (nar .byte ((c1 >>> ((8 : Int32) &&& 31)).toInt8.toInt32)))] (.int 0)
set_option maxRecDepth 65536 in
set_option maxHeartbeats 40000000 in
theorem rmtoB_2 (l : Launch) (Z : State) (a0 : Array Value) (hw : ∀ d ∈ tables_1, d.before a0 Z = true) (ws : List Jvm.Cond) (a1 : Addr) (kc : ClassId) (c0 : Int32) (c1 : Int32) (h0 : Heap) (n0 : Nat) (Z0 : n0 ≤ h0.size) (O0 : Old Z n0 h0) (qU : (own_SU Z)) (VC : Arv Z h0 a1 kc .char (2 : Int32) [(.int c0), (.int c1)] (.int 0)) :
    MetFree l own_m30 (head1 (Jvm.Cond.code own_m30 jdk_52_method_14_code 5 (some (.array .byte)) :: ws) (own_r 2 1 4 24)) (fun a U => a = #[(.ref a1), (.int 0), (.int 2)] ∧ Z.Warmed39 U.vm ∧ U.heap = h0) (fun _ _ _ _ _ => True) (fun _ U o U' => ∃ v L, o = .returned v ∧ QtoB_2 Z a1 kc c0 c1 h0 n0 v U'.heap L ∧ FrameEnd U o U' L (own_r 2 1 4 24).cells (own_r 2 1 4 24).slots) := by
  refine MetFree.of_bodySF (plainFor_of_name pn_26) hisR ?_
  intro p e s m args below meth c s₁ Bd hml0 hP hK
  obtain ⟨rfl, hZ, hh⟩ := hP
  have hx := Bd.exec
  have hby := Bd.bytes
  have hml : c.maxLocals = 5 := hml0
  have hown0 := findClass_of_methodNamed Bd.named
  have hown : s.vm.findClass "java/lang/StringUTF16" = some m.cls := hown0
  have hnm := (name_of_methodNamed Bd.named Bd.method).1
  have X0 : Stand p l e (own_r 2 1 4 24) s m #[(.ref a1), (.int 0), (.int 2)] below meth c s₁ [] 0 0 := Stand.of_body Bd
  have e0 : s₁.heap = h0 := by rw [← hh, Bd.state]; rfl
  have N0 := Fr.nil n0
  obtain ⟨S0, hS0⟩ : ∃ z, z = s₁.setTop (entryFrame m #[(.ref a1), (.int 0), (.int 2)] 5) := ⟨_, rfl⟩
  have pre0 : own_Go p e below S0 (s₁.setTop (mkF m 0 #[.val (.ref a1), .val (.int 0), .val (.int 2), .unset, .unset] [])) := fun t k => by rw [hS0]; exact castTop (ef_toB_2 m a1) k
  have fin : ∀ t, Steps p.tables e below S0 t → Steps p.tables e below (s₁.setTop (entryFrame m #[(.ref a1), (.int 0), (.int 2)] 5)) t := fun t k => by rw [hS0] at k; exact k
  have kc0 : Keep h0 h0 [] := Keep.refl _ _
  have pre1 : own_Go p e below S0 (s₁.setTop (mkF m 1 #[.val (.ref a1), .val (.int 0), .val (.int 2), .unset, .unset] [(.int 2)])) := by
    intro t kt
    refine pre0 t ?_
    refine XS.iloadN X0.here hx rfl (hb hby d26_0) rfl ?_
    exact kt
  obtain ⟨_, _, ⟨T2, L2, k2, n2⟩, -, X2, ⟨Lc2, hQ2, l2, y2, z2⟩, st2⟩ := Jvm.LawKit.callS X0 hx (y := own_m27) hown (mvT hZ (hw _ (own_w 122 rfl))) (mvT hZ (hw _ (own_w 123 rfl))) (mvT hZ (hw _ (own_w 26 rfl))) (mvT hZ (hw _ (own_w 124 rfl))) (by decide) (backOf (W := 0) (rmnfor_2 l Z a0 hw []  h0 n0 Z0 ) hZ (hw _ (own_w 124 rfl)) (hw _ (own_w 26 rfl)) (by decide) (by decide)) (g := (mkF m 1 #[.val (.ref a1), .val (.int 0), .val (.int 2), .unset, .unset] [(.int 2)])) rfl (by rw [hml]; rfl) (argsL := [(.int 2)]) (rest := []) (lenOf pd_2 rfl) rfl (by show 2 * 0 + _ ≤ _; exact Nat.le_of_eq rfl) (hb hby d26_1) (fun _ _ => ⟨rfl, e0, (by decide : 0 + 1 ≤ _), (by decide : 0 + 4 ≤ _)⟩)
  dsimp only [Pt.U, Pt.locs, Pt.cells, Pt.slots] at X2 l2 y2 z2 st2 hQ2
  subst l2 y2 z2
  obtain ⟨b3, kb4, rfl, Nq2, K2, g5, g6⟩ := hQ2
  have N2 := Fr.app N0 Nq2
  have ne7 : a1 ≠ b3 := Nat.ne_of_lt (Nat.lt_of_lt_of_le VC.lt g5)
  have ge8 : n0 ≤ b3 := Nat.le_trans Z0 g5
  have sz9 : h0.size ≤ b3 := Nat.le_trans kc0.1 g5
  have zs10 : n0 ≤ T2.heap.size := Nat.le_trans Z0 K2.1
  have kc11 : Keep h0 T2.heap [] := kc0.trans K2 all0
  have pre12 : own_Go p e below S0 (T2.setTop (mkF m 19 #[.val (.ref a1), .val (.int 0), .val (.int 2), .val (.ref b3), .val (.int 0)] [(.int 0), (.ref a1), (.int 0), (.ref b3)])) := by
    intro t kt
    refine pre1 t ?_
    refine st2 _ ?_
    show Steps p.tables e below (T2.setTop (mkF m 4 #[.val (.ref a1), .val (.int 0), .val (.int 2), .unset, .unset] [(.ref b3)])) _
    refine XS.astoreN X2.here hx rfl (hb hby d26_4) rfl rfl (l' := #[.val (.ref a1), .val (.int 0), .val (.int 2), .val (.ref b3), .unset]) rfl ?_
    refine XS.iconst X2.here hx rfl (hb hby d26_5) ?_
    refine XS.istore X2.here hx rfl (hb hby d26_6) rfl (l' := #[.val (.ref a1), .val (.int 0), .val (.int 2), .val (.ref b3), .val (.int 0)]) rfl ?_
    refine XS.iload X2.here hx rfl (hb hby d26_8) rfl ?_
    refine XS.iloadN X2.here hx rfl (hb hby d26_10) rfl ?_
    show Steps p.tables e below (T2.setTop (mkF m 11 #[.val (.ref a1), .val (.int 0), .val (.int 2), .val (.ref b3), .val (.int 0)] [(.int 2), (.int 0)])) _
    refine XS.icmpNo X2.here hx rfl (hb hby d26_11) rfl (tlt (by decide : (0 : Int32) < (2 : Int32))).2.1 ?_
    refine XS.aloadN X2.here hx rfl (hb hby d26_14) rfl rfl ?_
    refine XS.iload X2.here hx rfl (hb hby d26_15) rfl ?_
    refine XS.aloadN X2.here hx rfl (hb hby d26_17) rfl rfl ?_
    refine XS.iloadN X2.here hx rfl (hb hby d26_18) rfl ?_
    exact kt
  have f13 : Arv Z T2.heap a1 kc .char (2 : Int32) [(.int c0), (.int c1)] (.int 0) := (VC.keep K2 nin0)
  obtain ⟨cl14, Ar14, -, Sz14, -, Hs14, -⟩ := id f13
  have hin14 : ¬ ((0 : Int32) < 0 ∨ cl14.slots.size ≤ ((0 : Int32)).toNatClampNeg) := inb_of Sz14 ⟨by decide, by decide⟩
  have pre15 : own_Go p e below S0 (T2.setTop (mkF m 20 #[.val (.ref a1), .val (.int 0), .val (.int 2), .val (.ref b3), .val (.int 0)] [(.int c0), (.int 0), (.ref b3)])) := by
    intro t kt
    refine pre12 t ?_
    refine X2.caload hx (j := (0 : Int32)) (v := (.int c0)) Ar14.1 (State.isArrayOf_alike hZ.alike Ar14.2.1) Ar14.2.2 hin14 (Hs14.at hin14 rfl) (g := (mkF m 19 #[.val (.ref a1), .val (.int 0), .val (.int 2), .val (.ref b3), .val (.int 0)] [(.int 0), (.ref a1), (.int 0), (.ref b3)])) rfl rfl (hb hby d26_19) _ ?_
    exact kt
  have f16 : Old Z n0 T2.heap := (O0.keep K2 all0)
  obtain ⟨_, _, ⟨T17, L17, k17, n17⟩, -, X17, ⟨Lc17, hQ17, l17, y17, z17⟩, st17⟩ := Jvm.LawKit.callS X2 hx (y := own_m29) hown (mvT hZ (hw _ (own_w 129 rfl))) (mvT hZ (hw _ (own_w 130 rfl))) (mvT hZ (hw _ (own_w 26 rfl))) (mvT hZ (hw _ (own_w 131 rfl))) (by decide) (backOf (W := 0) (rmputc_0_4 l Z a0 hw [] b3 c0 kb4 (.int 0) (.int 0) (.int 0) (.int 0) T2.heap n0 zs10 f16 qU ge8 g6) hZ (hw _ (own_w 131 rfl)) (hw _ (own_w 26 rfl)) (by decide) (by decide)) (g := (mkF m 20 #[.val (.ref a1), .val (.int 0), .val (.int 2), .val (.ref b3), .val (.int 0)] [(.int c0), (.int 0), (.ref b3)])) rfl (by rw [hml]; rfl) (argsL := [(.ref b3), (.int 0), (.int c0)]) (rest := []) (lenOf pd_3 rfl) rfl (by show 2 * 0 + _ ≤ _; exact Nat.le_of_eq rfl) (hb hby d26_20) (fun _ _ => ⟨rfl, rfl, (by decide : 1 + 0 ≤ _), (by decide : 4 + 0 ≤ _)⟩)
  dsimp only [Pt.U, Pt.locs, Pt.cells, Pt.slots] at X17 l17 y17 z17 st17 hQ17
  subst l17 y17 z17
  obtain ⟨rfl, Nq17, K17, g18⟩ := hQ17
  have N17 := Fr.app N2 Nq17
  have zs19 : n0 ≤ T17.heap.size := Nat.le_trans zs10 K17.1
  have kc20 : Keep h0 T17.heap [] := kc11.trans K17 (allS (Or.inr sz9) all0)
  have pre21 : own_Go p e below S0 (T17.setTop (mkF m 19 #[.val (.ref a1), .val (.int 1), .val (.int 2), .val (.ref b3), .val (.int 1)] [(.int 1), (.ref a1), (.int 1), (.ref b3)])) := by
    intro t kt
    refine pre15 t ?_
    refine st17 _ ?_
    show Steps p.tables e below (T17.setTop (mkF m 23 #[.val (.ref a1), .val (.int 0), .val (.int 2), .val (.ref b3), .val (.int 0)] [])) _
    refine XS.iinc X17.here hx rfl (hb hby d26_23) rfl (l' := #[.val (.ref a1), .val (.int 1), .val (.int 2), .val (.ref b3), .val (.int 0)]) rfl ?_
    refine XS.iinc X17.here hx rfl (hb hby d26_26) rfl (l' := #[.val (.ref a1), .val (.int 1), .val (.int 2), .val (.ref b3), .val (.int 1)]) rfl ?_
    refine XS.goto X17.here hx rfl (pc0 := 29) (pc' := 8) rfl (hb hby d26_29) (by decide) (by decide) ?_
    refine XS.iload X17.here hx rfl (hb hby d26_8) rfl ?_
    refine XS.iloadN X17.here hx rfl (hb hby d26_10) rfl ?_
    show Steps p.tables e below (T17.setTop (mkF m 11 #[.val (.ref a1), .val (.int 1), .val (.int 2), .val (.ref b3), .val (.int 1)] [(.int 2), (.int 1)])) _
    refine XS.icmpNo X17.here hx rfl (hb hby d26_11) rfl (tlt (by decide : (1 : Int32) < (2 : Int32))).2.1 ?_
    refine XS.aloadN X17.here hx rfl (hb hby d26_14) rfl rfl ?_
    refine XS.iload X17.here hx rfl (hb hby d26_15) rfl ?_
    refine XS.aloadN X17.here hx rfl (hb hby d26_17) rfl rfl ?_
    refine XS.iloadN X17.here hx rfl (hb hby d26_18) rfl ?_
    exact kt
  have f22 : Arv Z T17.heap a1 kc .char (2 : Int32) [(.int c0), (.int c1)] (.int 0) := (f13.keep K17 (ninS ne7 nin0))
  obtain ⟨cl23, Ar23, -, Sz23, -, Hs23, -⟩ := id f22
  have hin23 : ¬ ((1 : Int32) < 0 ∨ cl23.slots.size ≤ ((1 : Int32)).toNatClampNeg) := inb_of Sz23 ⟨by decide, by decide⟩
  have pre24 : own_Go p e below S0 (T17.setTop (mkF m 20 #[.val (.ref a1), .val (.int 1), .val (.int 2), .val (.ref b3), .val (.int 1)] [(.int c1), (.int 1), (.ref b3)])) := by
    intro t kt
    refine pre21 t ?_
    refine X17.caload hx (j := (1 : Int32)) (v := (.int c1)) Ar23.1 (State.isArrayOf_alike hZ.alike Ar23.2.1) Ar23.2.2 hin23 (Hs23.at hin23 rfl) (g := (mkF m 19 #[.val (.ref a1), .val (.int 1), .val (.int 2), .val (.ref b3), .val (.int 1)] [(.int 1), (.ref a1), (.int 1), (.ref b3)])) rfl rfl (hb hby d26_19) _ ?_
    exact kt
  have f25 : Old Z n0 T17.heap := (f16.keep K17 (allS ge8 all0))
  obtain ⟨_, _, ⟨T26, L26, k26, n26⟩, -, X26, ⟨Lc26, hQ26, l26, y26, z26⟩, st26⟩ := Jvm.LawKit.callS X17 hx (y := own_m29) hown (mvT hZ (hw _ (own_w 129 rfl))) (mvT hZ (hw _ (own_w 130 rfl))) (mvT hZ (hw _ (own_w 26 rfl))) (mvT hZ (hw _ (own_w 131 rfl))) (by decide) (backOf (W := 0) (rmputc_1_4 l Z a0 hw [] b3 c1 kb4 (.int (nar .byte ((c0 >>> ((0 : Int32) &&& 31)).toInt8.toInt32))) (.int (nar .byte ((c0 >>> ((8 : Int32) &&& 31)).toInt8.toInt32))) (.int 0) (.int 0) T17.heap n0 zs19 f25 qU ge8 g18) hZ (hw _ (own_w 131 rfl)) (hw _ (own_w 26 rfl)) (by decide) (by decide)) (g := (mkF m 20 #[.val (.ref a1), .val (.int 1), .val (.int 2), .val (.ref b3), .val (.int 1)] [(.int c1), (.int 1), (.ref b3)])) rfl (by rw [hml]; rfl) (argsL := [(.ref b3), (.int 1), (.int c1)]) (rest := []) (lenOf pd_3 rfl) rfl (by show 2 * 0 + _ ≤ _; exact Nat.le_of_eq rfl) (hb hby d26_20) (fun _ _ => ⟨rfl, rfl, (by decide : 1 + 0 ≤ _), (by decide : 4 + 0 ≤ _)⟩)
  dsimp only [Pt.U, Pt.locs, Pt.cells, Pt.slots] at X26 l26 y26 z26 st26 hQ26
  subst l26 y26 z26
  obtain ⟨rfl, Nq26, K26, g27⟩ := hQ26
  have N26 := Fr.app N17 Nq26
  have zs28 : n0 ≤ T26.heap.size := Nat.le_trans zs19 K26.1
  have kc29 : Keep h0 T26.heap [] := kc20.trans K26 (allS (Or.inr sz9) all0)
  have pre30 : own_Go p e below S0 (T26.setTop (mkF m 33 #[.val (.ref a1), .val (.int 2), .val (.int 2), .val (.ref b3), .val (.int 2)] [(.ref b3)])) := by
    intro t kt
    refine pre24 t ?_
    refine st26 _ ?_
    show Steps p.tables e below (T26.setTop (mkF m 23 #[.val (.ref a1), .val (.int 1), .val (.int 2), .val (.ref b3), .val (.int 1)] [])) _
    refine XS.iinc X26.here hx rfl (hb hby d26_23) rfl (l' := #[.val (.ref a1), .val (.int 2), .val (.int 2), .val (.ref b3), .val (.int 1)]) rfl ?_
    refine XS.iinc X26.here hx rfl (hb hby d26_26) rfl (l' := #[.val (.ref a1), .val (.int 2), .val (.int 2), .val (.ref b3), .val (.int 2)]) rfl ?_
    refine XS.goto X26.here hx rfl (pc0 := 29) (pc' := 8) rfl (hb hby d26_29) (by decide) (by decide) ?_
    refine XS.iload X26.here hx rfl (hb hby d26_8) rfl ?_
    refine XS.iloadN X26.here hx rfl (hb hby d26_10) rfl ?_
    show Steps p.tables e below (T26.setTop (mkF m 11 #[.val (.ref a1), .val (.int 2), .val (.int 2), .val (.ref b3), .val (.int 2)] [(.int 2), (.int 2)])) _
    refine XS.icmpYes X26.here hx rfl (pc0 := 11) (pc' := 32) rfl (hb hby d26_11) rfl (flt (by decide : ¬ ((2 : Int32) < (2 : Int32)))).2.1 (by decide) (by decide) ?_
    refine XS.aloadN X26.here hx rfl (hb hby d26_32) rfl rfl ?_
    exact kt
  obtain ⟨fs, hr, hrun, hended, hW, hsame⟩ := X26.leave (v := some (.ref b3)) (fun h => by rw [Bd.returns] at h; cases h)
  refine ⟨_, _, fin _ (pre30 _ ?_), hrun, hended, _, _, rfl, ?_, ⟨_, rfl⟩, hW, hsame.mono (by decide) (by decide)⟩
  · jvm_step X26.here [X26.here.top, hx, (hb hby d26_33), X26.method', Bd.returns, Value.isRef, FieldType.isReference]
    first | (intro acts; rw [hr _ acts rfl rfl rfl]) | rw [hr _ _ rfl rfl rfl]
    exact Steps.refl _
  · show QtoB_2 Z a1 kc c0 c1 h0 n0 _ T26.heap _
    exact ⟨b3, kb4, rfl, N26, kc29, sz9, g27⟩

theorem ef_cmp3_2 (m : MethodId) (x0 : Addr) : entryFrame m #[(.ref x0), (.int 0), (.int 2)] 6 = mkF m 0 #[.val (.ref x0), .val (.int 0), .val (.int 2), .unset, .unset, .unset] [] := by first | (simp [entryFrame, mkF, argsToLocals, Value.category]; done) | rfl
def Qcmp3_2 (Z : State) (a1 : Addr) (kc : ClassId) (c0 : Int32) (c1 : Int32) (h0 : Heap) (n0 : Nat) (v : Option Value) (h : Heap) (L : List Loc) : Prop := ∃ b : Addr, ∃ kb : ClassId, v = (some (.ref b)) ∧ Fr n0 L ∧ Keep h0 h [] ∧ h0.size ≤ b ∧ ((own_Lat [c0, c1] ∧ Arv Z h b kb .byte (2 : Int32) [(.int (nar .byte (c0.toInt8.toInt32))), (.int (nar .byte (c1.toInt8.toInt32)))] (.int 0)) ∨ (own_Chr [c0, c1] ∧ Arv Z h b kb .byte (4 : Int32) [(.int (nar .byte ((c0 >>> ((0 : Int32) &&& 31)).toInt8.toInt32))), (.int (nar .byte ((c0 >>> ((8 : Int32) &&& 31)).toInt8.toInt32))), (.int (nar .byte ((c1 >>> ((0 : Int32) &&& 31)).toInt8.toInt32))), (.int (nar .byte ((c1 >>> ((8 : Int32) &&& 31)).toInt8.toInt32)))] (.int 0)))
set_option maxRecDepth 65536 in
set_option maxHeartbeats 40000000 in
theorem rmcmp3_2 (l : Launch) (Z : State) (a0 : Array Value) (hw : ∀ d ∈ tables_1, d.before a0 Z = true) (ws : List Jvm.Cond) (a1 : Addr) (kc : ClassId) (c0 : Int32) (c1 : Int32) (h0 : Heap) (n0 : Nat) (Z0 : n0 ≤ h0.size) (O0 : Old Z n0 h0) (qU : (own_SU Z)) (VC : Arv Z h0 a1 kc .char (2 : Int32) [(.int c0), (.int c1)] (.int 0)) :
    MetFree l own_m23 (head1 (Jvm.Cond.code own_m23 jdk_52_method_16_code 6 (some (.array .byte)) :: ws) (own_r 3 2 6 40)) (fun a U => a = #[(.ref a1), (.int 0), (.int 2)] ∧ Z.Warmed39 U.vm ∧ U.heap = h0) (fun _ _ _ _ _ => True) (fun _ U o U' => ∃ v L, o = .returned v ∧ Qcmp3_2 Z a1 kc c0 c1 h0 n0 v U'.heap L ∧ FrameEnd U o U' L (own_r 3 2 6 40).cells (own_r 3 2 6 40).slots) := by
  refine MetFree.of_bodySF (plainFor_of_name pn_5) hisR ?_
  intro p e s m args below meth c s₁ Bd hml0 hP hK
  obtain ⟨rfl, hZ, hh⟩ := hP
  have hx := Bd.exec
  have hby := Bd.bytes
  have hml : c.maxLocals = 6 := hml0
  have hown0 := findClass_of_methodNamed Bd.named
  have hown : s.vm.findClass "java/lang/StringUTF16" = some m.cls := hown0
  have hnm := (name_of_methodNamed Bd.named Bd.method).1
  have X0 : Stand p l e (own_r 3 2 6 40) s m #[(.ref a1), (.int 0), (.int 2)] below meth c s₁ [] 0 0 := Stand.of_body Bd
  have e0 : s₁.heap = h0 := by rw [← hh, Bd.state]; rfl
  have N0 := Fr.nil n0
  obtain ⟨S0, hS0⟩ : ∃ z, z = s₁.setTop (entryFrame m #[(.ref a1), (.int 0), (.int 2)] 6) := ⟨_, rfl⟩
  have pre0 : own_Go p e below S0 (s₁.setTop (mkF m 0 #[.val (.ref a1), .val (.int 0), .val (.int 2), .unset, .unset, .unset] [])) := fun t k => by rw [hS0]; exact castTop (ef_cmp3_2 m a1) k
  have fin : ∀ t, Steps p.tables e below S0 t → Steps p.tables e below (s₁.setTop (entryFrame m #[(.ref a1), (.int 0), (.int 2)] 6)) t := fun t k => by rw [hS0] at k; exact k
  have kc0 : Keep h0 h0 [] := Keep.refl _ _
  have pre1 : own_Go p e below S0 (s₁.setTop (mkF m 1 #[.val (.ref a1), .val (.int 0), .val (.int 2), .unset, .unset, .unset] [(.int 2)])) := by
    intro t kt
    refine pre0 t ?_
    refine XS.iloadN X0.here hx rfl (hb hby d5_0) rfl ?_
    exact kt
  obtain ⟨T2, h2, k2, X2, e2, E2, A2, st2⟩ := newP X0 hx hZ (hw _ (own_w 28 rfl)) e0 (g := (mkF m 1 #[.val (.ref a1), .val (.int 0), .val (.int 2), .unset, .unset, .unset] [(.int 2)])) rfl (hb hby d5_1) rfl (by decide) (cap := 2) (by decide) (by decide) (by decide) (by decide)
  obtain ⟨b2, g2⟩ : ∃ z, z = h0.size := ⟨_, rfl⟩
  rw [← g2] at A2 st2
  have ne3 : a1 ≠ b2 := Nat.ne_of_lt (Nat.lt_of_lt_of_le VC.lt (Nat.le_of_eq g2.symm))
  have ge4 : n0 ≤ b2 := Nat.le_trans Z0 (Nat.le_of_eq g2.symm)
  have sz5 : h0.size ≤ b2 := Nat.le_trans kc0.1 (Nat.le_of_eq g2.symm)
  have zs6 : n0 ≤ h2.size := Nat.le_trans Z0 E2.1
  have kc7 : Keep h0 h2 [] := kc0.ext E2
  have V2 : Arv Z h2 b2 k2 .byte (2 : Int32) [(.int 0), (.int 0)] (.int 0) := (Arv.new A2 (by decide)).pad (pad_rep [] (.int 0) 2)
  have pre8 : own_Go p e below S0 (T2.setTop (mkF m 9 #[.val (.ref a1), .val (.int 0), .val (.int 2), .val (.ref b2), .unset, .unset] [(.int 2), (.int 0), (.ref b2), (.int 0), (.ref a1)])) := by
    intro t kt
    refine pre1 t ?_
    refine st2 _ ?_
    refine XS.astoreN X2.here hx rfl (hb hby d5_3) rfl rfl (l' := #[.val (.ref a1), .val (.int 0), .val (.int 2), .val (.ref b2), .unset, .unset]) rfl ?_
    refine XS.aloadN X2.here hx rfl (hb hby d5_4) rfl rfl ?_
    refine XS.iloadN X2.here hx rfl (hb hby d5_5) rfl ?_
    refine XS.aloadN X2.here hx rfl (hb hby d5_6) rfl rfl ?_
    refine XS.iconst X2.here hx rfl (hb hby d5_7) ?_
    show Steps p.tables e below (T2.setTop (mkF m 8 #[.val (.ref a1), .val (.int 0), .val (.int 2), .val (.ref b2), .unset, .unset] [(.int 0), (.ref b2), (.int 0), (.ref a1)])) _
    refine XS.iloadN X2.here hx rfl (hb hby d5_8) rfl ?_
    exact kt
  have f9 : Arv Z h2 a1 kc .char (2 : Int32) [(.int c0), (.int c1)] (.int 0) := (VC.ext E2)
  obtain ⟨_, _, ⟨T10, L10, k10, n10⟩, -, X10, ⟨Lc10, hQ10, l10, y10, z10⟩, st10⟩ := Jvm.LawKit.callS X2 hx (y := own_m24) hown (mvT hZ (hw _ (own_w 29 rfl))) (mvT hZ (hw _ (own_w 30 rfl))) (mvT hZ (hw _ (own_w 26 rfl))) (mvT hZ (hw _ (own_w 31 rfl))) (by decide) (backOf (W := 0) (rmcmp5_2 l Z a0 hw [] a1 b2 kc k2 c0 c1 h2 n0 zs6 f9 ge4 V2 ne3) hZ (hw _ (own_w 31 rfl)) (hw _ (own_w 26 rfl)) (by decide) (by decide)) (g := (mkF m 9 #[.val (.ref a1), .val (.int 0), .val (.int 2), .val (.ref b2), .unset, .unset] [(.int 2), (.int 0), (.ref b2), (.int 0), (.ref a1)])) rfl (by rw [hml]; rfl) (argsL := [(.ref a1), (.int 0), (.ref b2), (.int 0), (.int 2)]) (rest := []) (lenOf pd_4 rfl) rfl (by show 2 * 0 + _ ≤ _; exact Nat.le_of_eq rfl) (hb hby d5_9) (fun _ _ => ⟨rfl, e2, (by decide : 1 + 0 ≤ _), (by decide : 2 + 0 ≤ _)⟩)
  dsimp only [Pt.U, Pt.locs, Pt.cells, Pt.slots] at X10 l10 y10 z10 st10 hQ10
  subst l10 y10 z10
  obtain ⟨r11, rfl, Nq10, K10, g12⟩ := hQ10
  have N10 := Fr.app N0 Nq10
  have zs13 : n0 ≤ T10.heap.size := Nat.le_trans zs6 K10.1
  have kc14 : Keep h0 T10.heap [] := kc7.trans K10 (allS (Or.inr sz5) all0)
  have pre15 : own_Go p e below S0 (T10.setTop (mkF m 12 #[.val (.ref a1), .val (.int 0), .val (.int 2), .val (.ref b2), .unset, .unset] [(.int r11)])) := by
    intro t kt
    refine pre8 t ?_
    refine st10 _ ?_
    show Steps p.tables e below (T10.setTop (mkF m 12 #[.val (.ref a1), .val (.int 0), .val (.int 2), .val (.ref b2), .unset, .unset] [(.int r11)])) _
    exact kt
  obtain ⟨hr, hl, hv⟩ | ⟨hr, hg⟩ | ⟨hr, hg⟩ := g12
  · have pre16 : own_Go p e below S0 (T10.setTop (mkF m 12 #[.val (.ref a1), .val (.int 0), .val (.int 2), .val (.ref b2), .unset, .unset] [(.int 2)])) := by
      intro t kt
      refine pre15 t ?_
      rw [hr]
      exact kt
    have pre17 : own_Go p e below S0 (T10.setTop (mkF m 58 #[.val (.ref a1), .val (.int 0), .val (.int 2), .val (.ref b2), .val (.int 2), .unset] [(.ref b2)])) := by
      intro t kt
      refine pre16 t ?_
      refine XS.istore X10.here hx rfl (hb hby d5_12) rfl (l' := #[.val (.ref a1), .val (.int 0), .val (.int 2), .val (.ref b2), .val (.int 2), .unset]) rfl ?_
      refine XS.iload X10.here hx rfl (hb hby d5_14) rfl ?_
      refine XS.iloadN X10.here hx rfl (hb hby d5_16) rfl ?_
      refine XS.icmpYes X10.here hx rfl (pc0 := 17) (pc' := 57) rfl (hb hby d5_17) rfl (teq (by decide : (2 : Int32) = (2 : Int32))).1 (by decide) (by decide) ?_
      refine XS.aloadN X10.here hx rfl (hb hby d5_57) rfl rfl ?_
      exact kt
    obtain ⟨fs, hr, hrun, hended, hW, hsame⟩ := X10.leave (v := some (.ref b2)) (fun h => by rw [Bd.returns] at h; cases h)
    refine ⟨_, _, fin _ (pre17 _ ?_), hrun, hended, _, _, rfl, ?_, ⟨_, rfl⟩, hW, hsame.mono (by decide) (by decide)⟩
    · jvm_step X10.here [X10.here.top, hx, (hb hby d5_58), X10.method', Bd.returns, Value.isRef, FieldType.isReference]
      first | (intro acts; rw [hr _ acts rfl rfl rfl]) | rw [hr _ _ rfl rfl rfl]
      exact Steps.refl _
    · show Qcmp3_2 Z a1 kc c0 c1 h0 n0 _ T10.heap _
      exact ⟨b2, k2, rfl, N10, kc14, sz5, (Or.inl ⟨hl, hv⟩)⟩
  · have pre18 : own_Go p e below S0 (T10.setTop (mkF m 12 #[.val (.ref a1), .val (.int 0), .val (.int 2), .val (.ref b2), .unset, .unset] [(.int 0)])) := by
      intro t kt
      refine pre15 t ?_
      rw [hr]
      exact kt
    have pre19 : own_Go p e below S0 (T10.setTop (mkF m 23 #[.val (.ref a1), .val (.int 0), .val (.int 2), .val (.ref b2), .val (.int 0), .unset] [(.int 2), (.int 0), (.ref a1)])) := by
      intro t kt
      refine pre18 t ?_
      refine XS.istore X10.here hx rfl (hb hby d5_12) rfl (l' := #[.val (.ref a1), .val (.int 0), .val (.int 2), .val (.ref b2), .val (.int 0), .unset]) rfl ?_
      refine XS.iload X10.here hx rfl (hb hby d5_14) rfl ?_
      refine XS.iloadN X10.here hx rfl (hb hby d5_16) rfl ?_
      refine XS.icmpNo X10.here hx rfl (hb hby d5_17) rfl (feq (by decide : ¬ ((0 : Int32) = (2 : Int32)))).1 ?_
      refine XS.aloadN X10.here hx rfl (hb hby d5_20) rfl rfl ?_
      refine XS.iloadN X10.here hx rfl (hb hby d5_21) rfl ?_
      show Steps p.tables e below (T10.setTop (mkF m 22 #[.val (.ref a1), .val (.int 0), .val (.int 2), .val (.ref b2), .val (.int 0), .unset] [(.int 0), (.ref a1)])) _
      refine XS.iloadN X10.here hx rfl (hb hby d5_22) rfl ?_
      exact kt
    have f20 : Old Z n0 T10.heap := ((O0.ext E2).keep K10 (allS ge4 all0))
    have f21 : Arv Z T10.heap a1 kc .char (2 : Int32) [(.int c0), (.int c1)] (.int 0) := (f9.keep K10 (ninS ne3 nin0))
    obtain ⟨_, _, ⟨T22, L22, k22, n22⟩, -, X22, ⟨Lc22, hQ22, l22, y22, z22⟩, st22⟩ := Jvm.LawKit.callS X10 hx (y := own_m30) hown (mvT hZ (hw _ (own_w 119 rfl))) (mvT hZ (hw _ (own_w 120 rfl))) (mvT hZ (hw _ (own_w 26 rfl))) (mvT hZ (hw _ (own_w 121 rfl))) (by decide) (backOf (W := 0) (rmtoB_2 l Z a0 hw [] a1 kc c0 c1 T10.heap n0 zs13 f20 qU f21) hZ (hw _ (own_w 121 rfl)) (hw _ (own_w 26 rfl)) (by decide) (by decide)) (g := (mkF m 23 #[.val (.ref a1), .val (.int 0), .val (.int 2), .val (.ref b2), .val (.int 0), .unset] [(.int 2), (.int 0), (.ref a1)])) rfl (by rw [hml]; rfl) (argsL := [(.ref a1), (.int 0), (.int 2)]) (rest := []) (lenOf pd_5 rfl) rfl (by show 2 * 0 + _ ≤ _; exact Nat.le_of_eq rfl) (hb hby d5_23) (fun _ _ => ⟨rfl, rfl, (by decide : 1 + 1 ≤ _), (by decide : 2 + 4 ≤ _)⟩)
    dsimp only [Pt.U, Pt.locs, Pt.cells, Pt.slots] at X22 l22 y22 z22 st22 hQ22
    subst l22 y22 z22
    obtain ⟨b23, kb24, rfl, Nq22, K22, g25, g26⟩ := hQ22
    have N22 := Fr.app N10 Nq22
    have ne27 : a1 ≠ b23 := Nat.ne_of_lt (Nat.lt_of_lt_of_le f21.lt g25)
    have ge28 : n0 ≤ b23 := Nat.le_trans zs13 g25
    have sz29 : h0.size ≤ b23 := Nat.le_trans kc14.1 g25
    have zs30 : n0 ≤ T22.heap.size := Nat.le_trans zs13 K22.1
    have kc31 : Keep h0 T22.heap [] := kc14.trans K22 all0
    have pre32 : own_Go p e below S0 (T22.setTop (mkF m 32 #[.val (.ref a1), .val (.int 0), .val (.int 2), .val (.ref b2), .val (.int 0), .val (.ref b23)] [(.int 0), (.ref b23)])) := by
      intro t kt
      refine pre19 t ?_
      refine st22 _ ?_
      show Steps p.tables e below (T22.setTop (mkF m 26 #[.val (.ref a1), .val (.int 0), .val (.int 2), .val (.ref b2), .val (.int 0), .unset] [(.ref b23)])) _
      refine XS.astore X22.here hx rfl (hb hby d5_26) rfl rfl (l' := #[.val (.ref a1), .val (.int 0), .val (.int 2), .val (.ref b2), .val (.int 0), .val (.ref b23)]) rfl ?_
      refine XS.aload X22.here hx rfl (hb hby d5_28) rfl rfl ?_
      refine XS.iload X22.here hx rfl (hb hby d5_30) rfl ?_
      exact kt
    have f33 : Old Z n0 T22.heap := (f20.keep K22 all0)
    obtain ⟨_, _, ⟨T34, L34, k34, n34⟩, -, X34, ⟨Lc34, hQ34, l34, y34, z34⟩, st34⟩ := Jvm.LawKit.callS X22 hx (y := own_m25) hown (mvT hZ (hw _ (own_w 135 rfl))) (mvT hZ (hw _ (own_w 136 rfl))) (mvT hZ (hw _ (own_w 26 rfl))) (mvT hZ (hw _ (own_w 137 rfl))) (by decide) (backOf (W := 0) (rmgetc l Z a0 hw [] b23 (0 : Int32) kb24 (4 : Int32) [(.int (nar .byte ((c0 >>> ((0 : Int32) &&& 31)).toInt8.toInt32))), (.int (nar .byte ((c0 >>> ((8 : Int32) &&& 31)).toInt8.toInt32))), (.int (nar .byte ((c1 >>> ((0 : Int32) &&& 31)).toInt8.toInt32))), (.int (nar .byte ((c1 >>> ((8 : Int32) &&& 31)).toInt8.toInt32)))] (.int 0) (nar .byte ((c0 >>> ((0 : Int32) &&& 31)).toInt8.toInt32)) (nar .byte ((c0 >>> ((8 : Int32) &&& 31)).toInt8.toInt32)) 0 1 T22.heap n0 zs30 f33 qU g26 (by decide +kernel) (by decide +kernel) (by decide +kernel) rfl (by decide +kernel) (by decide +kernel) (by decide +kernel) rfl) hZ (hw _ (own_w 137 rfl)) (hw _ (own_w 26 rfl)) (by decide) (by decide)) (g := (mkF m 32 #[.val (.ref a1), .val (.int 0), .val (.int 2), .val (.ref b2), .val (.int 0), .val (.ref b23)] [(.int 0), (.ref b23)])) rfl (by rw [hml]; rfl) (argsL := [(.ref b23), (.int 0)]) (rest := []) (lenOf pd_6 rfl) rfl (by show 2 * 0 + _ ≤ _; exact Nat.le_of_eq rfl) (hb hby d5_32) (fun _ _ => ⟨rfl, rfl, (by decide : 2 + 0 ≤ _), (by decide : 6 + 0 ≤ _)⟩)
    dsimp only [Pt.U, Pt.locs, Pt.cells, Pt.slots] at X34 l34 y34 z34 st34 hQ34
    subst l34 y34 z34
    obtain ⟨rfl, Nq34, eq34⟩ := hQ34
    have N34 := Fr.app N22 Nq34
    have pre35 : own_Go p e below S0 (T34.setTop (mkF m 35 #[.val (.ref a1), .val (.int 0), .val (.int 2), .val (.ref b2), .val (.int 0), .val (.ref b23)] [(.int (own_gc (nar .byte ((c0 >>> ((0 : Int32) &&& 31)).toInt8.toInt32)) (nar .byte ((c0 >>> ((8 : Int32) &&& 31)).toInt8.toInt32))))])) := by
      intro t kt
      refine pre32 t ?_
      refine st34 _ ?_
      show Steps p.tables e below (T34.setTop (mkF m 35 #[.val (.ref a1), .val (.int 0), .val (.int 2), .val (.ref b2), .val (.int 0), .val (.ref b23)] [(.int (own_gc (nar .byte ((c0 >>> ((0 : Int32) &&& 31)).toInt8.toInt32)) (nar .byte ((c0 >>> ((8 : Int32) &&& 31)).toInt8.toInt32))))])) _
      exact kt
    have pre36 : own_Go p e below S0 (T34.setTop (mkF m 35 #[.val (.ref a1), .val (.int 0), .val (.int 2), .val (.ref b2), .val (.int 0), .val (.ref b23)] [(.int c0)])) := by
      intro t kt
      refine pre35 t ?_
      rw [own_utfget c0 (own_fitAt VC 0 (by decide) rfl)]
      exact kt
    have pre37 : own_Go p e below S0 (T34.setTop (mkF m 56 #[.val (.ref a1), .val (.int 0), .val (.int 2), .val (.ref b2), .val (.int 0), .val (.ref b23)] [(.ref b23)])) := by
      intro t kt
      refine pre36 t ?_
      refine XS.sipush X34.here hx rfl (hb hby d5_35) ?_
      refine XS.icmpYes X34.here hx rfl (pc0 := 38) (pc' := 54) rfl (hb hby d5_38) rfl (tlt hg).2.2.1 (by decide) (by decide) ?_
      refine XS.aload X34.here hx rfl (hb hby d5_54) rfl rfl ?_
      exact kt
    obtain ⟨fs, hr, hrun, hended, hW, hsame⟩ := X34.leave (v := some (.ref b23)) (fun h => by rw [Bd.returns] at h; cases h)
    refine ⟨_, _, fin _ (pre37 _ ?_), hrun, hended, _, _, rfl, ?_, ⟨_, rfl⟩, hW, hsame.mono (by decide) (by decide)⟩
    · jvm_step X34.here [X34.here.top, hx, (hb hby d5_56), X34.method', Bd.returns, Value.isRef, FieldType.isReference]
      first | (intro acts; rw [hr _ acts rfl rfl rfl]) | rw [hr _ _ rfl rfl rfl]
      exact Steps.refl _
    · show Qcmp3_2 Z a1 kc c0 c1 h0 n0 _ T34.heap _
      rw [eq34]
      exact ⟨b23, kb24, rfl, N34, kc31, sz29, (Or.inr ⟨⟨own_fitAt VC 0 (by decide) rfl, ⟨own_fitAt VC 1 (by decide) rfl, trivial⟩⟩, g26⟩)⟩
  · have pre38 : own_Go p e below S0 (T10.setTop (mkF m 12 #[.val (.ref a1), .val (.int 0), .val (.int 2), .val (.ref b2), .unset, .unset] [(.int 1)])) := by
      intro t kt
      refine pre15 t ?_
      rw [hr]
      exact kt
    have pre39 : own_Go p e below S0 (T10.setTop (mkF m 23 #[.val (.ref a1), .val (.int 0), .val (.int 2), .val (.ref b2), .val (.int 1), .unset] [(.int 2), (.int 0), (.ref a1)])) := by
      intro t kt
      refine pre38 t ?_
      refine XS.istore X10.here hx rfl (hb hby d5_12) rfl (l' := #[.val (.ref a1), .val (.int 0), .val (.int 2), .val (.ref b2), .val (.int 1), .unset]) rfl ?_
      refine XS.iload X10.here hx rfl (hb hby d5_14) rfl ?_
      refine XS.iloadN X10.here hx rfl (hb hby d5_16) rfl ?_
      refine XS.icmpNo X10.here hx rfl (hb hby d5_17) rfl (feq (by decide : ¬ ((1 : Int32) = (2 : Int32)))).1 ?_
      refine XS.aloadN X10.here hx rfl (hb hby d5_20) rfl rfl ?_
      refine XS.iloadN X10.here hx rfl (hb hby d5_21) rfl ?_
      show Steps p.tables e below (T10.setTop (mkF m 22 #[.val (.ref a1), .val (.int 0), .val (.int 2), .val (.ref b2), .val (.int 1), .unset] [(.int 0), (.ref a1)])) _
      refine XS.iloadN X10.here hx rfl (hb hby d5_22) rfl ?_
      exact kt
    have f40 : Old Z n0 T10.heap := ((O0.ext E2).keep K10 (allS ge4 all0))
    have f41 : Arv Z T10.heap a1 kc .char (2 : Int32) [(.int c0), (.int c1)] (.int 0) := (f9.keep K10 (ninS ne3 nin0))
    obtain ⟨_, _, ⟨T42, L42, k42, n42⟩, -, X42, ⟨Lc42, hQ42, l42, y42, z42⟩, st42⟩ := Jvm.LawKit.callS X10 hx (y := own_m30) hown (mvT hZ (hw _ (own_w 119 rfl))) (mvT hZ (hw _ (own_w 120 rfl))) (mvT hZ (hw _ (own_w 26 rfl))) (mvT hZ (hw _ (own_w 121 rfl))) (by decide) (backOf (W := 0) (rmtoB_2 l Z a0 hw [] a1 kc c0 c1 T10.heap n0 zs13 f40 qU f41) hZ (hw _ (own_w 121 rfl)) (hw _ (own_w 26 rfl)) (by decide) (by decide)) (g := (mkF m 23 #[.val (.ref a1), .val (.int 0), .val (.int 2), .val (.ref b2), .val (.int 1), .unset] [(.int 2), (.int 0), (.ref a1)])) rfl (by rw [hml]; rfl) (argsL := [(.ref a1), (.int 0), (.int 2)]) (rest := []) (lenOf pd_5 rfl) rfl (by show 2 * 0 + _ ≤ _; exact Nat.le_of_eq rfl) (hb hby d5_23) (fun _ _ => ⟨rfl, rfl, (by decide : 1 + 1 ≤ _), (by decide : 2 + 4 ≤ _)⟩)
    dsimp only [Pt.U, Pt.locs, Pt.cells, Pt.slots] at X42 l42 y42 z42 st42 hQ42
    subst l42 y42 z42
    obtain ⟨b43, kb44, rfl, Nq42, K42, g45, g46⟩ := hQ42
    have N42 := Fr.app N10 Nq42
    have ne47 : a1 ≠ b43 := Nat.ne_of_lt (Nat.lt_of_lt_of_le f41.lt g45)
    have ge48 : n0 ≤ b43 := Nat.le_trans zs13 g45
    have sz49 : h0.size ≤ b43 := Nat.le_trans kc14.1 g45
    have zs50 : n0 ≤ T42.heap.size := Nat.le_trans zs13 K42.1
    have kc51 : Keep h0 T42.heap [] := kc14.trans K42 all0
    have pre52 : own_Go p e below S0 (T42.setTop (mkF m 32 #[.val (.ref a1), .val (.int 0), .val (.int 2), .val (.ref b2), .val (.int 1), .val (.ref b43)] [(.int 1), (.ref b43)])) := by
      intro t kt
      refine pre39 t ?_
      refine st42 _ ?_
      show Steps p.tables e below (T42.setTop (mkF m 26 #[.val (.ref a1), .val (.int 0), .val (.int 2), .val (.ref b2), .val (.int 1), .unset] [(.ref b43)])) _
      refine XS.astore X42.here hx rfl (hb hby d5_26) rfl rfl (l' := #[.val (.ref a1), .val (.int 0), .val (.int 2), .val (.ref b2), .val (.int 1), .val (.ref b43)]) rfl ?_
      refine XS.aload X42.here hx rfl (hb hby d5_28) rfl rfl ?_
      refine XS.iload X42.here hx rfl (hb hby d5_30) rfl ?_
      exact kt
    have f53 : Old Z n0 T42.heap := (f40.keep K42 all0)
    obtain ⟨_, _, ⟨T54, L54, k54, n54⟩, -, X54, ⟨Lc54, hQ54, l54, y54, z54⟩, st54⟩ := Jvm.LawKit.callS X42 hx (y := own_m25) hown (mvT hZ (hw _ (own_w 135 rfl))) (mvT hZ (hw _ (own_w 136 rfl))) (mvT hZ (hw _ (own_w 26 rfl))) (mvT hZ (hw _ (own_w 137 rfl))) (by decide) (backOf (W := 0) (rmgetc l Z a0 hw [] b43 (1 : Int32) kb44 (4 : Int32) [(.int (nar .byte ((c0 >>> ((0 : Int32) &&& 31)).toInt8.toInt32))), (.int (nar .byte ((c0 >>> ((8 : Int32) &&& 31)).toInt8.toInt32))), (.int (nar .byte ((c1 >>> ((0 : Int32) &&& 31)).toInt8.toInt32))), (.int (nar .byte ((c1 >>> ((8 : Int32) &&& 31)).toInt8.toInt32)))] (.int 0) (nar .byte ((c1 >>> ((0 : Int32) &&& 31)).toInt8.toInt32)) (nar .byte ((c1 >>> ((8 : Int32) &&& 31)).toInt8.toInt32)) 2 3 T42.heap n0 zs50 f53 qU g46 (by decide +kernel) (by decide +kernel) (by decide +kernel) rfl (by decide +kernel) (by decide +kernel) (by decide +kernel) rfl) hZ (hw _ (own_w 137 rfl)) (hw _ (own_w 26 rfl)) (by decide) (by decide)) (g := (mkF m 32 #[.val (.ref a1), .val (.int 0), .val (.int 2), .val (.ref b2), .val (.int 1), .val (.ref b43)] [(.int 1), (.ref b43)])) rfl (by rw [hml]; rfl) (argsL := [(.ref b43), (.int 1)]) (rest := []) (lenOf pd_6 rfl) rfl (by show 2 * 0 + _ ≤ _; exact Nat.le_of_eq rfl) (hb hby d5_32) (fun _ _ => ⟨rfl, rfl, (by decide : 2 + 0 ≤ _), (by decide : 6 + 0 ≤ _)⟩)
    dsimp only [Pt.U, Pt.locs, Pt.cells, Pt.slots] at X54 l54 y54 z54 st54 hQ54
    subst l54 y54 z54
    obtain ⟨rfl, Nq54, eq54⟩ := hQ54
    have N54 := Fr.app N42 Nq54
    have pre55 : own_Go p e below S0 (T54.setTop (mkF m 35 #[.val (.ref a1), .val (.int 0), .val (.int 2), .val (.ref b2), .val (.int 1), .val (.ref b43)] [(.int (own_gc (nar .byte ((c1 >>> ((0 : Int32) &&& 31)).toInt8.toInt32)) (nar .byte ((c1 >>> ((8 : Int32) &&& 31)).toInt8.toInt32))))])) := by
      intro t kt
      refine pre52 t ?_
      refine st54 _ ?_
      show Steps p.tables e below (T54.setTop (mkF m 35 #[.val (.ref a1), .val (.int 0), .val (.int 2), .val (.ref b2), .val (.int 1), .val (.ref b43)] [(.int (own_gc (nar .byte ((c1 >>> ((0 : Int32) &&& 31)).toInt8.toInt32)) (nar .byte ((c1 >>> ((8 : Int32) &&& 31)).toInt8.toInt32))))])) _
      exact kt
    have pre56 : own_Go p e below S0 (T54.setTop (mkF m 35 #[.val (.ref a1), .val (.int 0), .val (.int 2), .val (.ref b2), .val (.int 1), .val (.ref b43)] [(.int c1)])) := by
      intro t kt
      refine pre55 t ?_
      rw [own_utfget c1 (own_fitAt VC 1 (by decide) rfl)]
      exact kt
    have pre57 : own_Go p e below S0 (T54.setTop (mkF m 56 #[.val (.ref a1), .val (.int 0), .val (.int 2), .val (.ref b2), .val (.int 1), .val (.ref b43)] [(.ref b43)])) := by
      intro t kt
      refine pre56 t ?_
      refine XS.sipush X54.here hx rfl (hb hby d5_35) ?_
      refine XS.icmpYes X54.here hx rfl (pc0 := 38) (pc' := 54) rfl (hb hby d5_38) rfl (tlt hg).2.2.1 (by decide) (by decide) ?_
      refine XS.aload X54.here hx rfl (hb hby d5_54) rfl rfl ?_
      exact kt
    obtain ⟨fs, hr, hrun, hended, hW, hsame⟩ := X54.leave (v := some (.ref b43)) (fun h => by rw [Bd.returns] at h; cases h)
    refine ⟨_, _, fin _ (pre57 _ ?_), hrun, hended, _, _, rfl, ?_, ⟨_, rfl⟩, hW, hsame.mono (by decide) (by decide)⟩
    · jvm_step X54.here [X54.here.top, hx, (hb hby d5_56), X54.method', Bd.returns, Value.isRef, FieldType.isReference]
      first | (intro acts; rw [hr _ acts rfl rfl rfl]) | rw [hr _ _ rfl rfl rfl]
      exact Steps.refl _
    · show Qcmp3_2 Z a1 kc c0 c1 h0 n0 _ T54.heap _
      rw [eq54]
      exact ⟨b43, kb44, rfl, N54, kc51, sz49, (Or.inr ⟨⟨own_fitAt VC 0 (by decide) rfl, ⟨own_fitAt VC 1 (by decide) rfl, trivial⟩⟩, g46⟩)⟩

theorem ef_init4_2 (m : MethodId) (x0 : Addr) (x1 : Addr) : entryFrame m #[(.ref x0), (.ref x1), (.int 0), (.int 2), .null] 6 = mkF m 0 #[.val (.ref x0), .val (.ref x1), .val (.int 0), .val (.int 2), .val .null, .unset] [] := by first | (simp [entryFrame, mkF, argsToLocals, Value.category]; done) | rfl
def Qinit4_2 (Z : State) (a1 : Addr) (a2 : Addr) (kc : ClassId) (c0 : Int32) (c1 : Int32) (wC : Int32) (h0 : Heap) (n0 : Nat) (v : Option Value) (h : Heap) (L : List Loc) : Prop := ∃ vb : Addr, ∃ kb : ClassId, v = none ∧ Fr n0 L ∧ Keep h0 h [a1] ∧ h0.size ≤ vb ∧ own_Str Z h a1 vb kb [c0, c1]
set_option maxRecDepth 65536 in
set_option maxHeartbeats 40000000 in
theorem rminit4_2 (l : Launch) (Z : State) (a0 : Array Value) (hw : ∀ d ∈ tables_1, d.before a0 Z = true) (ws : List Jvm.Cond) (a1 : Addr) (a2 : Addr) (kc : ClassId) (c0 : Int32) (c1 : Int32) (wC : Int32) (h0 : Heap) (n0 : Nat) (Z0 : n0 ≤ h0.size) (O0 : Old Z n0 h0) (qC : (own_SC Z wC)) (qU : (own_SU Z)) (E1 : Exa Z h0 a1 "java/lang/String") (F1 : Fld Z h0 a1 "java/lang/String" "value" "[B" .null) (F2 : Fld Z h0 a1 "java/lang/String" "coder" "B" (.int 0)) (g1 : n0 ≤ a1) (VC : Arv Z h0 a2 kc .char (2 : Int32) [(.int c0), (.int c1)] (.int 0)) :
    MetFree l own_m7 (head1 (Jvm.Cond.code own_m7 jdk_42_method_149_code 6 none :: ws) (own_r 4 2 6 57)) (fun a U => a = #[(.ref a1), (.ref a2), (.int 0), (.int 2), .null] ∧ Z.Warmed39 U.vm ∧ U.heap = h0) (fun _ _ _ _ _ => True) (fun _ U o U' => ∃ v L, o = .returned v ∧ Qinit4_2 Z a1 a2 kc c0 c1 wC h0 n0 v U'.heap L ∧ FrameEnd U o U' L (own_r 4 2 6 57).cells (own_r 4 2 6 57).slots) := by
  refine MetFree.of_bodySF (plainFor_of_name pn_3) hisR ?_
  intro p e s m args below meth c s₁ Bd hml0 hP hK
  obtain ⟨rfl, hZ, hh⟩ := hP
  have hx := Bd.exec
  have hby := Bd.bytes
  have hml : c.maxLocals = 6 := hml0
  have hown0 := findClass_of_methodNamed Bd.named
  have hown : s.vm.findClass "java/lang/String" = some m.cls := hown0
  have hnm := (name_of_methodNamed Bd.named Bd.method).1
  have X0 : Stand p l e (own_r 4 2 6 57) s m #[(.ref a1), (.ref a2), (.int 0), (.int 2), .null] below meth c s₁ [] 0 0 := Stand.of_body Bd
  have e0 : s₁.heap = h0 := by rw [← hh, Bd.state]; rfl
  have N0 := Fr.nil n0
  obtain ⟨S0, hS0⟩ : ∃ z, z = s₁.setTop (entryFrame m #[(.ref a1), (.ref a2), (.int 0), (.int 2), .null] 6) := ⟨_, rfl⟩
  have pre0 : own_Go p e below S0 (s₁.setTop (mkF m 0 #[.val (.ref a1), .val (.ref a2), .val (.int 0), .val (.int 2), .val .null, .unset] [])) := fun t k => by rw [hS0]; exact castTop (ef_init4_2 m a1 a2) k
  have fin : ∀ t, Steps p.tables e below S0 t → Steps p.tables e below (s₁.setTop (entryFrame m #[(.ref a1), (.ref a2), (.int 0), (.int 2), .null] 6)) t := fun t k => by rw [hS0] at k; exact k
  have kc0 : Keep h0 h0 [a1] := Keep.refl _ _
  have pre1 : own_Go p e below S0 (s₁.setTop (mkF m 1 #[.val (.ref a1), .val (.ref a2), .val (.int 0), .val (.int 2), .val .null, .unset] [(.ref a1)])) := by
    intro t kt
    refine pre0 t ?_
    refine XS.aloadN X0.here hx rfl (hb hby d3_0) rfl rfl ?_
    exact kt
  obtain ⟨T2, X2, e2, st2⟩ := initO X0 hx hZ hown (hw _ (own_w 20 rfl)) (hw _ (own_w 21 rfl)) (hw _ (own_w 22 rfl)) e0 (g := (mkF m 1 #[.val (.ref a1), .val (.ref a2), .val (.int 0), .val (.int 2), .val .null, .unset] [(.ref a1)])) rfl (by rw [hml]; rfl) rfl (hb hby d3_1) (by decide) (W := 0) (by show 2 * 0 + _ ≤ _; exact Nat.le_of_eq rfl) (by decide)
  have pre3 : own_Go p e below S0 (T2.setTop (mkF m 27 #[.val (.ref a1), .val (.ref a2), .val (.int 0), .val (.int 2), .val .null, .unset] [])) := by
    intro t kt
    refine pre1 t ?_
    refine st2 _ ?_
    refine XS.iloadN X2.here hx rfl (hb hby d3_4) rfl ?_
    refine XS.ifYes X2.here hx rfl (pc0 := 5) (pc' := 27) rfl (hb hby d3_5) rfl ((if0 _ _).trans (feq (by decide : ¬ ((2 : Int32) = (0 : Int32)))).2) (by decide) (by decide) ?_
    exact kt
  obtain ⟨T4, X4, e4, st4⟩ := getS2 X2 hx hZ hown (host := "") (Or.inl (hw _ (own_w 23 rfl))) Via.refl e2 (qC.1.ext O0.2) (g := (mkF m 27 #[.val (.ref a1), .val (.ref a2), .val (.int 0), .val (.int 2), .val .null, .unset] [])) rfl (hb hby d3_27)
  have pre5 : own_Go p e below S0 (T4.setTop (mkF m 36 #[.val (.ref a1), .val (.ref a2), .val (.int 0), .val (.int 2), .val .null, .unset] [(.int 2), (.int 0), (.ref a2)])) := by
    intro t kt
    refine pre3 t ?_
    refine st4 _ ?_
    refine XS.ifNo X4.here hx rfl (hb hby d3_30) rfl ((if0 _ _).trans (feq qC.2).1) ?_
    refine XS.aloadN X4.here hx rfl (hb hby d3_33) rfl rfl ?_
    refine XS.iloadN X4.here hx rfl (hb hby d3_34) rfl ?_
    refine XS.iloadN X4.here hx rfl (hb hby d3_35) rfl ?_
    exact kt
  obtain ⟨_, _, ⟨T6, L6, k6, n6⟩, -, X6, ⟨Lc6, hQ6, l6, y6, z6⟩, st6⟩ := Jvm.LawKit.callS X4 hx (y := own_m23) hown (mvT hZ (hw _ (own_w 24 rfl))) (mvT hZ (hw _ (own_w 25 rfl))) (mvT hZ (hw _ (own_w 26 rfl))) (mvT hZ (hw _ (own_w 27 rfl))) (by decide) (backOf (W := 0) (rmcmp3_2 l Z a0 hw [] a2 kc c0 c1 h0 n0 Z0 O0 qU VC) hZ (hw _ (own_w 27 rfl)) (hw _ (own_w 26 rfl)) (by decide) (by decide)) (g := (mkF m 36 #[.val (.ref a1), .val (.ref a2), .val (.int 0), .val (.int 2), .val .null, .unset] [(.int 2), (.int 0), (.ref a2)])) rfl (by rw [hml]; rfl) (argsL := [(.ref a2), (.int 0), (.int 2)]) (rest := []) (lenOf pd_5 rfl) rfl (by show 2 * 0 + _ ≤ _; exact Nat.le_of_eq rfl) (hb hby d3_36) (fun _ _ => ⟨rfl, e4, (by decide : 0 + 2 ≤ _), (by decide : 0 + 6 ≤ _)⟩)
  dsimp only [Pt.U, Pt.locs, Pt.cells, Pt.slots] at X6 l6 y6 z6 st6 hQ6
  subst l6 y6 z6
  obtain ⟨b7, kb8, rfl, Nq6, K6, g9, g10⟩ := hQ6
  have N6 := Fr.app N0 Nq6
  have ne11 : a1 ≠ b7 := Nat.ne_of_lt (Nat.lt_of_lt_of_le E1.lt g9)
  have ne12 : a2 ≠ b7 := Nat.ne_of_lt (Nat.lt_of_lt_of_le VC.lt g9)
  have ge13 : n0 ≤ b7 := Nat.le_trans Z0 g9
  have sz14 : h0.size ≤ b7 := Nat.le_trans kc0.1 g9
  have zs15 : n0 ≤ T6.heap.size := Nat.le_trans Z0 K6.1
  have kc16 : Keep h0 T6.heap [a1] := kc0.trans K6 all0
  have pre17 : own_Go p e below S0 (T6.setTop (mkF m 39 #[.val (.ref a1), .val (.ref a2), .val (.int 0), .val (.int 2), .val .null, .unset] [(.ref b7)])) := by
    intro t kt
    refine pre5 t ?_
    refine st6 _ ?_
    show Steps p.tables e below (T6.setTop (mkF m 39 #[.val (.ref a1), .val (.ref a2), .val (.int 0), .val (.int 2), .val .null, .unset] [(.ref b7)])) _
    exact kt
  obtain ⟨hl, hv⟩ | ⟨hl, hv⟩ := g10
  · have pre18 : own_Go p e below S0 (T6.setTop (mkF m 45 #[.val (.ref a1), .val (.ref a2), .val (.int 0), .val (.int 2), .val .null, .val (.ref b7)] [(.int 2), (.ref b7), (.ref a1)])) := by
      intro t kt
      refine pre17 t ?_
      refine XS.astore X6.here hx rfl (hb hby d3_39) rfl rfl (l' := #[.val (.ref a1), .val (.ref a2), .val (.int 0), .val (.int 2), .val .null, .val (.ref b7)]) rfl ?_
      refine XS.aloadN X6.here hx rfl (hb hby d3_41) rfl rfl ?_
      refine XS.aload X6.here hx rfl (hb hby d3_42) rfl rfl ?_
      refine XS.iloadN X6.here hx rfl (hb hby d3_44) rfl ?_
      exact kt
    obtain ⟨_, _, ⟨T19, L19, k19, n19⟩, -, X19, ⟨Lc19, hQ19, l19, y19, z19⟩, st19⟩ := Jvm.LawKit.callS X6 hx (y := own_m22) hown (mvT hZ (hw _ (own_w 32 rfl))) (mvT hZ (hw _ (own_w 33 rfl))) (mvT hZ (hw _ (own_w 26 rfl))) (mvT hZ (hw _ (own_w 34 rfl))) (by decide) (backOf (W := 1) (rmcofa l Z a0 hw [] b7 (2 : Int32) kb8 (2 : Int32) [(.int (nar .byte (c0.toInt8.toInt32))), (.int (nar .byte (c1.toInt8.toInt32)))] (.int 0) T6.heap n0 zs15 hv) hZ (hw _ (own_w 34 rfl)) (hw _ (own_w 26 rfl)) (by decide) (by decide)) (g := (mkF m 45 #[.val (.ref a1), .val (.ref a2), .val (.int 0), .val (.int 2), .val .null, .val (.ref b7)] [(.int 2), (.ref b7), (.ref a1)])) rfl (by rw [hml]; rfl) (argsL := [(.ref b7), (.int 2)]) (rest := [(.ref a1)]) (lenOf pd_7 rfl) rfl (by show 2 * 0 + _ ≤ _; exact Nat.le_of_eq rfl) (hb hby d3_45) (fun _ _ => ⟨rfl, rfl, (by decide : 2 + 0 ≤ _), (by decide : 6 + 0 ≤ _)⟩)
    dsimp only [Pt.U, Pt.locs, Pt.cells, Pt.slots] at X19 l19 y19 z19 st19 hQ19
    subst l19 y19 z19
    obtain ⟨rfl, Nq19, eq19⟩ := hQ19
    have N19 := Fr.app N6 Nq19
    have pre20 : own_Go p e below S0 (T19.setTop (mkF m 48 #[.val (.ref a1), .val (.ref a2), .val (.int 0), .val (.int 2), .val .null, .val (.ref b7)] [(.int (own_cofa (2 : Int32) (2 : Int32))), (.ref a1)])) := by
      intro t kt
      refine pre18 t ?_
      refine st19 _ ?_
      show Steps p.tables e below (T19.setTop (mkF m 48 #[.val (.ref a1), .val (.ref a2), .val (.int 0), .val (.int 2), .val .null, .val (.ref b7)] [(.int (own_cofa (2 : Int32) (2 : Int32))), (.ref a1)])) _
      exact kt
    have pre21 : own_Go p e below S0 (T19.setTop (mkF m 48 #[.val (.ref a1), .val (.ref a2), .val (.int 0), .val (.int 2), .val .null, .val (.ref b7)] [(.int 0), (.ref a1)])) := by
      intro t kt
      refine pre20 t ?_
      rw [(by decide : (own_cofa (2 : Int32) (2 : Int32)) = (0 : Int32))]
      exact kt
    have f22 : Fld Z T6.heap a1 "java/lang/String" "coder" "B" (.int 0) := (F2.keep K6 nin0)
    have f23 : Exa Z T6.heap a1 "java/lang/String" := (E1.keep K6)
    obtain ⟨T24, h24, X24, e24, W24, st24⟩ := putFN X19 hx hZ hown (hw _ (own_w 35 rfl)) Via.refl eq19 f22 f23 (Or.inr ⟨(hw _ (own_w 36 rfl)), rfl, hnm⟩) (hw _ (own_w 10 rfl)) (ty := .byte) (v' := (.int 0)) (by decide) rfl (by decide) (g := (mkF m 48 #[.val (.ref a1), .val (.ref a2), .val (.int 0), .val (.int 2), .val .null, .val (.ref b7)] [(.int 0), (.ref a1)])) rfl rfl (hb hby d3_48)
    have N24 := Fr.snoc X24 N19 g1
    have zs25 : n0 ≤ h24.size := Nat.le_trans zs15 (Keep.of_wr W24).1
    have kc26 : Keep h0 h24 [a1] := kc16.wr W24 (Or.inl (List.mem_of_getElem? (i := 0) rfl))
    have fw24 : Fld Z h24 a1 "java/lang/String" "coder" "B" (.int 0) := f22.same W24
    have pre27 : own_Go p e below S0 (T24.setTop (mkF m 54 #[.val (.ref a1), .val (.ref a2), .val (.int 0), .val (.int 2), .val .null, .val (.ref b7)] [(.ref b7), (.ref a1)])) := by
      intro t kt
      refine pre21 t ?_
      refine st24 _ ?_
      refine XS.aloadN X24.here hx rfl (hb hby d3_51) rfl rfl ?_
      refine XS.aload X24.here hx rfl (hb hby d3_52) rfl rfl ?_
      exact kt
    have f28 : Fld Z h24 a1 "java/lang/String" "value" "[B" .null := ((F1.keep K6 nin0).other W24 (Or.inr (slot_ne (Or.inr (hw _ (own_w 38 rfl))) (Or.inr (hw _ (own_w 36 rfl))) (by decide) (t := (.array .byte)) (t' := .byte) (by decide) (by decide))))
    have f29 : Exa Z h24 a1 "java/lang/String" := (f23.wr W24)
    obtain ⟨T30, h30, X30, e30, W30, st30⟩ := putF X24 hx hZ hown (host := "") (Or.inl (hw _ (own_w 37 rfl))) Via.refl e24 f28 f29 (Or.inr ⟨(hw _ (own_w 38 rfl)), rfl, hnm⟩) (hw _ (own_w 10 rfl)) (ty := (.array .byte)) (by decide) rfl rfl (g := (mkF m 54 #[.val (.ref a1), .val (.ref a2), .val (.int 0), .val (.int 2), .val .null, .val (.ref b7)] [(.ref b7), (.ref a1)])) rfl rfl (hb hby d3_54)
    have N30 := Fr.snoc X30 N24 g1
    have zs31 : n0 ≤ h30.size := Nat.le_trans zs25 (Keep.of_wr W30).1
    have kc32 : Keep h0 h30 [a1] := kc26.wr W30 (Or.inl (List.mem_of_getElem? (i := 0) rfl))
    have fw30 : Fld Z h30 a1 "java/lang/String" "value" "[B" (.ref b7) := f28.same W30
    have pre33 : own_Go p e below S0 (T30.setTop (mkF m 57 #[.val (.ref a1), .val (.ref a2), .val (.int 0), .val (.int 2), .val .null, .val (.ref b7)] [])) := by
      intro t kt
      refine pre27 t ?_
      refine st30 _ ?_
      exact kt
    have f34 : Exa Z h30 a1 "java/lang/String" := (f29.wr W30)
    have f35 : Fld Z h30 a1 "java/lang/String" "coder" "B" (.int 0) := (fw24.other W30 (Or.inr (slot_ne (Or.inr (hw _ (own_w 36 rfl))) (Or.inr (hw _ (own_w 38 rfl))) (by decide) (t := .byte) (t' := (.array .byte)) (by decide) (by decide))))
    have f36 : Arv Z h30 b7 kb8 .byte (2 : Int32) [(.int (nar .byte (c0.toInt8.toInt32))), (.int (nar .byte (c1.toInt8.toInt32)))] (.int 0) := ((hv.other W24 (Ne.symm ne11)).other W30 (Ne.symm ne11))
    obtain ⟨fs, hr, hrun, hended, hW, hsame⟩ := X30.leave (v := none) (fun _ => rfl)
    refine ⟨_, _, fin _ (pre33 _ ?_), hrun, hended, _, _, rfl, ?_, ⟨_, rfl⟩, hW, hsame.mono (by decide) (by decide)⟩
    · exact X30.returnOut hx Bd.returns (hb hby d3_57) hr
    · show Qinit4_2 Z a1 a2 kc c0 c1 wC h0 n0 _ T30.heap _
      rw [e30]
      exact ⟨b7, kb8, rfl, N30, kc32, sz14, ⟨f34, fw30, Or.inl ⟨f35, hl, f36⟩⟩⟩
  · have pre37 : own_Go p e below S0 (T6.setTop (mkF m 45 #[.val (.ref a1), .val (.ref a2), .val (.int 0), .val (.int 2), .val .null, .val (.ref b7)] [(.int 2), (.ref b7), (.ref a1)])) := by
      intro t kt
      refine pre17 t ?_
      refine XS.astore X6.here hx rfl (hb hby d3_39) rfl rfl (l' := #[.val (.ref a1), .val (.ref a2), .val (.int 0), .val (.int 2), .val .null, .val (.ref b7)]) rfl ?_
      refine XS.aloadN X6.here hx rfl (hb hby d3_41) rfl rfl ?_
      refine XS.aload X6.here hx rfl (hb hby d3_42) rfl rfl ?_
      refine XS.iloadN X6.here hx rfl (hb hby d3_44) rfl ?_
      exact kt
    obtain ⟨_, _, ⟨T38, L38, k38, n38⟩, -, X38, ⟨Lc38, hQ38, l38, y38, z38⟩, st38⟩ := Jvm.LawKit.callS X6 hx (y := own_m22) hown (mvT hZ (hw _ (own_w 32 rfl))) (mvT hZ (hw _ (own_w 33 rfl))) (mvT hZ (hw _ (own_w 26 rfl))) (mvT hZ (hw _ (own_w 34 rfl))) (by decide) (backOf (W := 1) (rmcofa l Z a0 hw [] b7 (2 : Int32) kb8 (4 : Int32) [(.int (nar .byte ((c0 >>> ((0 : Int32) &&& 31)).toInt8.toInt32))), (.int (nar .byte ((c0 >>> ((8 : Int32) &&& 31)).toInt8.toInt32))), (.int (nar .byte ((c1 >>> ((0 : Int32) &&& 31)).toInt8.toInt32))), (.int (nar .byte ((c1 >>> ((8 : Int32) &&& 31)).toInt8.toInt32)))] (.int 0) T6.heap n0 zs15 hv) hZ (hw _ (own_w 34 rfl)) (hw _ (own_w 26 rfl)) (by decide) (by decide)) (g := (mkF m 45 #[.val (.ref a1), .val (.ref a2), .val (.int 0), .val (.int 2), .val .null, .val (.ref b7)] [(.int 2), (.ref b7), (.ref a1)])) rfl (by rw [hml]; rfl) (argsL := [(.ref b7), (.int 2)]) (rest := [(.ref a1)]) (lenOf pd_7 rfl) rfl (by show 2 * 0 + _ ≤ _; exact Nat.le_of_eq rfl) (hb hby d3_45) (fun _ _ => ⟨rfl, rfl, (by decide : 2 + 0 ≤ _), (by decide : 6 + 0 ≤ _)⟩)
    dsimp only [Pt.U, Pt.locs, Pt.cells, Pt.slots] at X38 l38 y38 z38 st38 hQ38
    subst l38 y38 z38
    obtain ⟨rfl, Nq38, eq38⟩ := hQ38
    have N38 := Fr.app N6 Nq38
    have pre39 : own_Go p e below S0 (T38.setTop (mkF m 48 #[.val (.ref a1), .val (.ref a2), .val (.int 0), .val (.int 2), .val .null, .val (.ref b7)] [(.int (own_cofa (2 : Int32) (4 : Int32))), (.ref a1)])) := by
      intro t kt
      refine pre37 t ?_
      refine st38 _ ?_
      show Steps p.tables e below (T38.setTop (mkF m 48 #[.val (.ref a1), .val (.ref a2), .val (.int 0), .val (.int 2), .val .null, .val (.ref b7)] [(.int (own_cofa (2 : Int32) (4 : Int32))), (.ref a1)])) _
      exact kt
    have pre40 : own_Go p e below S0 (T38.setTop (mkF m 48 #[.val (.ref a1), .val (.ref a2), .val (.int 0), .val (.int 2), .val .null, .val (.ref b7)] [(.int 1), (.ref a1)])) := by
      intro t kt
      refine pre39 t ?_
      rw [(by decide : (own_cofa (2 : Int32) (4 : Int32)) = (1 : Int32))]
      exact kt
    have f41 : Fld Z T6.heap a1 "java/lang/String" "coder" "B" (.int 0) := (F2.keep K6 nin0)
    have f42 : Exa Z T6.heap a1 "java/lang/String" := (E1.keep K6)
    obtain ⟨T43, h43, X43, e43, W43, st43⟩ := putFN X38 hx hZ hown (hw _ (own_w 35 rfl)) Via.refl eq38 f41 f42 (Or.inr ⟨(hw _ (own_w 36 rfl)), rfl, hnm⟩) (hw _ (own_w 10 rfl)) (ty := .byte) (v' := (.int 1)) (by decide) rfl (by decide) (g := (mkF m 48 #[.val (.ref a1), .val (.ref a2), .val (.int 0), .val (.int 2), .val .null, .val (.ref b7)] [(.int 1), (.ref a1)])) rfl rfl (hb hby d3_48)
    have N43 := Fr.snoc X43 N38 g1
    have zs44 : n0 ≤ h43.size := Nat.le_trans zs15 (Keep.of_wr W43).1
    have kc45 : Keep h0 h43 [a1] := kc16.wr W43 (Or.inl (List.mem_of_getElem? (i := 0) rfl))
    have fw43 : Fld Z h43 a1 "java/lang/String" "coder" "B" (.int 1) := f41.same W43
    have pre46 : own_Go p e below S0 (T43.setTop (mkF m 54 #[.val (.ref a1), .val (.ref a2), .val (.int 0), .val (.int 2), .val .null, .val (.ref b7)] [(.ref b7), (.ref a1)])) := by
      intro t kt
      refine pre40 t ?_
      refine st43 _ ?_
      refine XS.aloadN X43.here hx rfl (hb hby d3_51) rfl rfl ?_
      refine XS.aload X43.here hx rfl (hb hby d3_52) rfl rfl ?_
      exact kt
    have f47 : Fld Z h43 a1 "java/lang/String" "value" "[B" .null := ((F1.keep K6 nin0).other W43 (Or.inr (slot_ne (Or.inr (hw _ (own_w 38 rfl))) (Or.inr (hw _ (own_w 36 rfl))) (by decide) (t := (.array .byte)) (t' := .byte) (by decide) (by decide))))
    have f48 : Exa Z h43 a1 "java/lang/String" := (f42.wr W43)
    obtain ⟨T49, h49, X49, e49, W49, st49⟩ := putF X43 hx hZ hown (host := "") (Or.inl (hw _ (own_w 37 rfl))) Via.refl e43 f47 f48 (Or.inr ⟨(hw _ (own_w 38 rfl)), rfl, hnm⟩) (hw _ (own_w 10 rfl)) (ty := (.array .byte)) (by decide) rfl rfl (g := (mkF m 54 #[.val (.ref a1), .val (.ref a2), .val (.int 0), .val (.int 2), .val .null, .val (.ref b7)] [(.ref b7), (.ref a1)])) rfl rfl (hb hby d3_54)
    have N49 := Fr.snoc X49 N43 g1
    have zs50 : n0 ≤ h49.size := Nat.le_trans zs44 (Keep.of_wr W49).1
    have kc51 : Keep h0 h49 [a1] := kc45.wr W49 (Or.inl (List.mem_of_getElem? (i := 0) rfl))
    have fw49 : Fld Z h49 a1 "java/lang/String" "value" "[B" (.ref b7) := f47.same W49
    have pre52 : own_Go p e below S0 (T49.setTop (mkF m 57 #[.val (.ref a1), .val (.ref a2), .val (.int 0), .val (.int 2), .val .null, .val (.ref b7)] [])) := by
      intro t kt
      refine pre46 t ?_
      refine st49 _ ?_
      exact kt
    have f53 : Exa Z h49 a1 "java/lang/String" := (f48.wr W49)
    have f54 : Fld Z h49 a1 "java/lang/String" "coder" "B" (.int 1) := (fw43.other W49 (Or.inr (slot_ne (Or.inr (hw _ (own_w 36 rfl))) (Or.inr (hw _ (own_w 38 rfl))) (by decide) (t := .byte) (t' := (.array .byte)) (by decide) (by decide))))
    have f55 : Arv Z h49 b7 kb8 .byte (4 : Int32) [(.int (nar .byte ((c0 >>> ((0 : Int32) &&& 31)).toInt8.toInt32))), (.int (nar .byte ((c0 >>> ((8 : Int32) &&& 31)).toInt8.toInt32))), (.int (nar .byte ((c1 >>> ((0 : Int32) &&& 31)).toInt8.toInt32))), (.int (nar .byte ((c1 >>> ((8 : Int32) &&& 31)).toInt8.toInt32)))] (.int 0) := ((hv.other W43 (Ne.symm ne11)).other W49 (Ne.symm ne11))
    obtain ⟨fs, hr, hrun, hended, hW, hsame⟩ := X49.leave (v := none) (fun _ => rfl)
    refine ⟨_, _, fin _ (pre52 _ ?_), hrun, hended, _, _, rfl, ?_, ⟨_, rfl⟩, hW, hsame.mono (by decide) (by decide)⟩
    · exact X49.returnOut hx Bd.returns (hb hby d3_57) hr
    · show Qinit4_2 Z a1 a2 kc c0 c1 wC h0 n0 _ T49.heap _
      rw [e49]
      exact ⟨b7, kb8, rfl, N49, kc51, sz14, ⟨f53, fw49, Or.inr ⟨f54, hl, f55⟩⟩⟩

theorem ef_init1_2 (m : MethodId) (x0 : Addr) (x1 : Addr) : entryFrame m #[(.ref x0), (.ref x1)] 2 = mkF m 0 #[.val (.ref x0), .val (.ref x1)] [] := by first | (simp [entryFrame, mkF, argsToLocals, Value.category]; done) | rfl
def Qinit1_2 (Z : State) (a1 : Addr) (a2 : Addr) (kc : ClassId) (c0 : Int32) (c1 : Int32) (wC : Int32) (h0 : Heap) (n0 : Nat) (v : Option Value) (h : Heap) (L : List Loc) : Prop := ∃ vb : Addr, ∃ kb : ClassId, v = none ∧ Fr n0 L ∧ Keep h0 h [a1] ∧ h0.size ≤ vb ∧ own_Str Z h a1 vb kb [c0, c1]
set_option maxRecDepth 65536 in
set_option maxHeartbeats 40000000 in
theorem rminit1_2 (l : Launch) (Z : State) (a0 : Array Value) (hw : ∀ d ∈ tables_1, d.before a0 Z = true) (ws : List Jvm.Cond) (a1 : Addr) (a2 : Addr) (kc : ClassId) (c0 : Int32) (c1 : Int32) (wC : Int32) (h0 : Heap) (n0 : Nat) (Z0 : n0 ≤ h0.size) (O0 : Old Z n0 h0) (qC : (own_SC Z wC)) (qU : (own_SU Z)) (E1 : Exa Z h0 a1 "java/lang/String") (F1 : Fld Z h0 a1 "java/lang/String" "value" "[B" .null) (F2 : Fld Z h0 a1 "java/lang/String" "coder" "B" (.int 0)) (g1 : n0 ≤ a1) (VC : Arv Z h0 a2 kc .char (2 : Int32) [(.int c0), (.int c1)] (.int 0)) :
    MetFree l own_m6 (head1 (Jvm.Cond.code own_m6 jdk_42_method_3_code 2 none :: ws) (own_r 5 2 6 74)) (fun a U => a = #[(.ref a1), (.ref a2)] ∧ Z.Warmed39 U.vm ∧ U.heap = h0) (fun _ _ _ _ _ => True) (fun _ U o U' => ∃ v L, o = .returned v ∧ Qinit1_2 Z a1 a2 kc c0 c1 wC h0 n0 v U'.heap L ∧ FrameEnd U o U' L (own_r 5 2 6 74).cells (own_r 5 2 6 74).slots) := by
  refine MetFree.of_bodySF (plainFor_of_name pn_2) hisR ?_
  intro p e s m args below meth c s₁ Bd hml0 hP hK
  obtain ⟨rfl, hZ, hh⟩ := hP
  have hx := Bd.exec
  have hby := Bd.bytes
  have hml : c.maxLocals = 2 := hml0
  have hown0 := findClass_of_methodNamed Bd.named
  have hown : s.vm.findClass "java/lang/String" = some m.cls := hown0
  have hnm := (name_of_methodNamed Bd.named Bd.method).1
  have X0 : Stand p l e (own_r 5 2 6 74) s m #[(.ref a1), (.ref a2)] below meth c s₁ [] 0 0 := Stand.of_body Bd
  have e0 : s₁.heap = h0 := by rw [← hh, Bd.state]; rfl
  have N0 := Fr.nil n0
  obtain ⟨S0, hS0⟩ : ∃ z, z = s₁.setTop (entryFrame m #[(.ref a1), (.ref a2)] 2) := ⟨_, rfl⟩
  have pre0 : own_Go p e below S0 (s₁.setTop (mkF m 0 #[.val (.ref a1), .val (.ref a2)] [])) := fun t k => by rw [hS0]; exact castTop (ef_init1_2 m a1 a2) k
  have fin : ∀ t, Steps p.tables e below S0 t → Steps p.tables e below (s₁.setTop (entryFrame m #[(.ref a1), (.ref a2)] 2)) t := fun t k => by rw [hS0] at k; exact k
  have kc0 : Keep h0 h0 [a1] := Keep.refl _ _
  have pre1 : own_Go p e below S0 (s₁.setTop (mkF m 4 #[.val (.ref a1), .val (.ref a2)] [(.ref a2), (.int 0), (.ref a2), (.ref a1)])) := by
    intro t kt
    refine pre0 t ?_
    refine XS.aloadN X0.here hx rfl (hb hby d2_0) rfl rfl ?_
    refine XS.aloadN X0.here hx rfl (hb hby d2_1) rfl rfl ?_
    refine XS.iconst X0.here hx rfl (hb hby d2_2) ?_
    refine XS.aloadN X0.here hx rfl (hb hby d2_3) rfl rfl ?_
    exact kt
  obtain ⟨cl2, Ar2, -, Sz2, Ng2, -, -⟩ := id VC
  have pre3 : own_Go p e below S0 (s₁.setTop (mkF m 6 #[.val (.ref a1), .val (.ref a2)] [.null, (.int 2), (.int 0), (.ref a2), (.ref a1)])) := by
    intro t kt
    refine pre1 t ?_
    refine X0.arraylength hx (by rw [e0]; exact Ar2.1) (State.isArrayOf_alike hZ.alike Ar2.2.1) (g := (mkF m 4 #[.val (.ref a1), .val (.ref a2)] [(.ref a2), (.int 0), (.ref a2), (.ref a1)])) rfl rfl (hb hby d2_4) _ ?_
    rw [len_of Sz2 Ng2]
    show Steps p.tables e below (s₁.setTop (mkF m 5 #[.val (.ref a1), .val (.ref a2)] [(.int 2), (.int 0), (.ref a2), (.ref a1)])) _
    refine XS.aconstNull X0.here hx rfl (hb hby d2_5) ?_
    exact kt
  obtain ⟨_, _, ⟨T4, L4, k4, n4⟩, -, X4, ⟨Lc4, hQ4, l4, y4, z4⟩, st4⟩ := X0.specialBack hx (y := own_m7) rfl hown (mvT hZ (hw _ (own_w 16 rfl))) (mvT hZ (hw _ (own_w 17 rfl))) (mvT hZ (hw _ (own_w 19 rfl))) (by decide) (backOf (W := 0) (rminit4_2 l Z a0 hw [] a1 a2 kc c0 c1 wC h0 n0 Z0 O0 qC qU E1 F1 F2 g1 VC) hZ (hw _ (own_w 19 rfl)) (hw _ (own_w 11 rfl)) (by decide) (by decide)) (g := (mkF m 6 #[.val (.ref a1), .val (.ref a2)] [.null, (.int 2), (.int 0), (.ref a2), (.ref a1)])) rfl (by rw [hml]; rfl) (Steps.refl _) (a := a1) (argsL := [(.ref a2), (.int 0), (.int 2), .null]) (rest := []) (lenOf pd_0 rfl) rfl (by show 2 * 0 + _ ≤ _; exact Nat.le_of_eq rfl) (hb hby d2_6) (fun _ _ => ⟨rfl, e0, (by decide : 0 + 2 ≤ _), (by decide : 0 + 6 ≤ _)⟩)
  dsimp only [Pt.U, Pt.locs, Pt.cells, Pt.slots] at X4 l4 y4 z4 st4 hQ4
  subst l4 y4 z4
  obtain ⟨vb5, kb6, rfl, Nq4, K4, g7, g8⟩ := hQ4
  have N4 := Fr.app N0 Nq4
  have ne9 : a1 ≠ vb5 := Nat.ne_of_lt (Nat.lt_of_lt_of_le E1.lt g7)
  have ne10 : a2 ≠ vb5 := Nat.ne_of_lt (Nat.lt_of_lt_of_le VC.lt g7)
  have ge11 : n0 ≤ vb5 := Nat.le_trans Z0 g7
  have sz12 : h0.size ≤ vb5 := Nat.le_trans kc0.1 g7
  have zs13 : n0 ≤ T4.heap.size := Nat.le_trans Z0 K4.1
  have kc14 : Keep h0 T4.heap [a1] := kc0.trans K4 (allS (Or.inl (List.mem_of_getElem? (i := 0) rfl)) all0)
  have pre15 : own_Go p e below S0 (T4.setTop (mkF m 9 #[.val (.ref a1), .val (.ref a2)] [])) := by
    intro t kt
    refine pre3 t ?_
    refine st4.trans ?_
    show Steps p.tables e below (T4.setTop (mkF m 9 #[.val (.ref a1), .val (.ref a2)] [])) _
    exact kt
  obtain ⟨fs, hr, hrun, hended, hW, hsame⟩ := X4.leave (v := none) (fun _ => rfl)
  refine ⟨_, _, fin _ (pre15 _ ?_), hrun, hended, _, _, rfl, ?_, ⟨_, rfl⟩, hW, hsame.mono (by decide) (by decide)⟩
  · exact X4.returnOut hx Bd.returns (hb hby d2_9) hr
  · show Qinit1_2 Z a1 a2 kc c0 c1 wC h0 n0 _ T4.heap _
    exact ⟨vb5, kb6, rfl, N4, kc14, sz12, g8⟩

theorem ef_cmp5_3 (m : MethodId) (x0 : Addr) (x2 : Addr) : entryFrame m #[(.ref x0), (.int 0), (.ref x2), (.int 0), (.int 3)] 7 = mkF m 0 #[.val (.ref x0), .val (.int 0), .val (.ref x2), .val (.int 0), .val (.int 3), .unset, .unset] [] := by first | (simp [entryFrame, mkF, argsToLocals, Value.category]; done) | rfl
def Qcmp5_3 (Z : State) (a1 : Addr) (a2 : Addr) (kc : ClassId) (kb : ClassId) (c0 : Int32) (c1 : Int32) (c2 : Int32) (h0 : Heap) (n0 : Nat) (v : Option Value) (h : Heap) (L : List Loc) : Prop := ∃ r : Int32, v = (some (.int r)) ∧ Fr n0 L ∧ Keep h0 h [a2] ∧ ((r = (3 : Int32) ∧ own_Lat [c0, c1, c2] ∧ Arv Z h a2 kb .byte (3 : Int32) [(.int (nar .byte (c0.toInt8.toInt32))), (.int (nar .byte (c1.toInt8.toInt32))), (.int (nar .byte (c2.toInt8.toInt32)))] (.int 0)) ∨ (r = (0 : Int32) ∧ (255 : Int32) < c0) ∨ (r = (1 : Int32) ∧ (255 : Int32) < c1) ∨ (r = (2 : Int32) ∧ (255 : Int32) < c2))
set_option maxRecDepth 65536 in
set_option maxHeartbeats 40000000 in
theorem rmcmp5_3 (l : Launch) (Z : State) (a0 : Array Value) (hw : ∀ d ∈ tables_1, d.before a0 Z = true) (ws : List Jvm.Cond) (a1 : Addr) (a2 : Addr) (kc : ClassId) (kb : ClassId) (c0 : Int32) (c1 : Int32) (c2 : Int32) (h0 : Heap) (n0 : Nat) (Z0 : n0 ≤ h0.size) (VC : Arv Z h0 a1 kc .char (3 : Int32) [(.int c0), (.int c1), (.int c2)] (.int 0)) (g2 : n0 ≤ a2) (VB : Arv Z h0 a2 kb .byte (3 : Int32) [(.int 0), (.int 0), (.int 0)] (.int 0)) (n12 : a1 ≠ a2) :
    MetFree l own_m24 (head1 (Jvm.Cond.code own_m24 jdk_52_method_21_code 7 (some .int) :: ws) (own_r 0 0 0 0)) (fun a U => a = #[(.ref a1), (.int 0), (.ref a2), (.int 0), (.int 3)] ∧ Z.Warmed39 U.vm ∧ U.heap = h0) (fun _ _ _ _ _ => True) (fun _ U o U' => ∃ v L, o = .returned v ∧ Qcmp5_3 Z a1 a2 kc kb c0 c1 c2 h0 n0 v U'.heap L ∧ FrameEnd U o U' L (own_r 0 0 0 0).cells (own_r 0 0 0 0).slots) := by
  refine MetFree.of_bodySF (plainFor_of_name pn_6) hisR ?_
  intro p e s m args below meth c s₁ Bd hml0 hP hK
  obtain ⟨rfl, hZ, hh⟩ := hP
  have hx := Bd.exec
  have hby := Bd.bytes
  have hml : c.maxLocals = 7 := hml0
  have hown0 := findClass_of_methodNamed Bd.named
  have hown : s.vm.findClass "java/lang/StringUTF16" = some m.cls := hown0
  have hnm := (name_of_methodNamed Bd.named Bd.method).1
  have X0 : Stand p l e (own_r 0 0 0 0) s m #[(.ref a1), (.int 0), (.ref a2), (.int 0), (.int 3)] below meth c s₁ [] 0 0 := Stand.of_body Bd
  have e0 : s₁.heap = h0 := by rw [← hh, Bd.state]; rfl
  have N0 := Fr.nil n0
  obtain ⟨S0, hS0⟩ : ∃ z, z = s₁.setTop (entryFrame m #[(.ref a1), (.int 0), (.ref a2), (.int 0), (.int 3)] 7) := ⟨_, rfl⟩
  have pre0 : own_Go p e below S0 (s₁.setTop (mkF m 0 #[.val (.ref a1), .val (.int 0), .val (.ref a2), .val (.int 0), .val (.int 3), .unset, .unset] [])) := fun t k => by rw [hS0]; exact castTop (ef_cmp5_3 m a1 a2) k
  have fin : ∀ t, Steps p.tables e below S0 t → Steps p.tables e below (s₁.setTop (entryFrame m #[(.ref a1), (.int 0), (.ref a2), (.int 0), (.int 3)] 7)) t := fun t k => by rw [hS0] at k; exact k
  have kc0 : Keep h0 h0 [a2] := Keep.refl _ _
  have pre1 : own_Go p e below S0 (s₁.setTop (mkF m 12 #[.val (.ref a1), .val (.int 0), .val (.ref a2), .val (.int 0), .val (.int 3), .val (.int 0), .unset] [(.int 0), (.ref a1)])) := by
    intro t kt
    refine pre0 t ?_
    refine XS.iconst X0.here hx rfl (hb hby d6_0) ?_
    refine XS.istore X0.here hx rfl (hb hby d6_1) rfl (l' := #[.val (.ref a1), .val (.int 0), .val (.ref a2), .val (.int 0), .val (.int 3), .val (.int 0), .unset]) rfl ?_
    refine XS.iload X0.here hx rfl (hb hby d6_3) rfl ?_
    refine XS.iload X0.here hx rfl (hb hby d6_5) rfl ?_
    refine XS.icmpNo X0.here hx rfl (hb hby d6_7) rfl (tlt (by decide : (0 : Int32) < (3 : Int32))).2.1 ?_
    refine XS.aloadN X0.here hx rfl (hb hby d6_10) rfl rfl ?_
    show Steps p.tables e below (s₁.setTop (mkF m 11 #[.val (.ref a1), .val (.int 0), .val (.ref a2), .val (.int 0), .val (.int 3), .val (.int 0), .unset] [(.ref a1)])) _
    refine XS.iloadN X0.here hx rfl (hb hby d6_11) rfl ?_
    exact kt
  obtain ⟨cl2, Ar2, -, Sz2, -, Hs2, -⟩ := id VC
  have hin2 : ¬ ((0 : Int32) < 0 ∨ cl2.slots.size ≤ ((0 : Int32)).toNatClampNeg) := inb_of Sz2 ⟨by decide, by decide⟩
  have pre4 : own_Go p e below S0 (s₁.setTop (mkF m 20 #[.val (.ref a1), .val (.int 0), .val (.ref a2), .val (.int 0), .val (.int 3), .val (.int 0), .val (.int c0)] [(.int 255), (.int c0)])) := by
    intro t kt
    refine pre1 t ?_
    refine X0.caload hx (j := (0 : Int32)) (v := (.int c0)) (by rw [e0]; exact Ar2.1) (State.isArrayOf_alike hZ.alike Ar2.2.1) Ar2.2.2 hin2 (Hs2.at hin2 rfl) (g := (mkF m 12 #[.val (.ref a1), .val (.int 0), .val (.ref a2), .val (.int 0), .val (.int 3), .val (.int 0), .unset] [(.int 0), (.ref a1)])) rfl rfl (hb hby d6_12) _ ?_
    refine XS.istore X0.here hx rfl (hb hby d6_13) rfl (l' := #[.val (.ref a1), .val (.int 0), .val (.ref a2), .val (.int 0), .val (.int 3), .val (.int 0), .val (.int c0)]) rfl ?_
    refine XS.iload X0.here hx rfl (hb hby d6_15) rfl ?_
    refine XS.sipush X0.here hx rfl (hb hby d6_17) ?_
    exact kt
  by_cases hc3 : (255 : Int32) < c0
  · have pre5 : own_Go p e below S0 (s₁.setTop (mkF m 25 #[.val (.ref a1), .val (.int 0), .val (.ref a2), .val (.int 0), .val (.int 3), .val (.int 0), .val (.int c0)] [(.int 0)])) := by
      intro t kt
      refine pre4 t ?_
      refine XS.icmpNo X0.here hx rfl (hb hby d6_20) rfl (tlt hc3).2.2.2 ?_
      refine XS.iload X0.here hx rfl (hb hby d6_23) rfl ?_
      exact kt
    obtain ⟨fs, hr, hrun, hended, hW, hsame⟩ := X0.leave (v := some (.int 0)) (fun h => by rw [Bd.returns] at h; cases h)
    refine ⟨_, _, fin _ (pre5 _ ?_), hrun, hended, _, _, rfl, ?_, ⟨_, rfl⟩, hW, hsame.mono (by decide) (by decide)⟩
    · exact retI X0 hx Bd.returns (hb hby d6_25) hr
    · show Qcmp5_3 Z a1 a2 kc kb c0 c1 c2 h0 n0 _ s₁.heap _
      rw [e0]
      exact ⟨(0 : Int32), rfl, N0, kc0, (Or.inr (Or.inl ⟨rfl, hc3⟩))⟩
  · have pre6 : own_Go p e below S0 (s₁.setTop (mkF m 31 #[.val (.ref a1), .val (.int 0), .val (.ref a2), .val (.int 0), .val (.int 3), .val (.int 0), .val (.int c0)] [(.int (c0.toInt8.toInt32)), (.int 0), (.ref a2)])) := by
      intro t kt
      refine pre4 t ?_
      refine XS.icmpYes X0.here hx rfl (pc0 := 20) (pc' := 26) rfl (hb hby d6_20) rfl (flt hc3).2.2.2 (by decide) (by decide) ?_
      refine XS.aloadN X0.here hx rfl (hb hby d6_26) rfl rfl ?_
      refine XS.iloadN X0.here hx rfl (hb hby d6_27) rfl ?_
      refine XS.iload X0.here hx rfl (hb hby d6_28) rfl ?_
      refine XS.i2b X0.here hx rfl (hb hby d6_30) rfl ?_
      exact kt
    obtain ⟨cl7, Ar7, q7, Sz7, Ng7, Hs7, Gt7⟩ := id VB
    have hin7 : ¬ ((0 : Int32) < 0 ∨ cl7.slots.size ≤ ((0 : Int32)).toNatClampNeg) := inb_of Sz7 ⟨by decide, by decide⟩
    obtain ⟨T7, h7, X7, e7, W7, st7⟩ := stB X0 hx hZ e0 Ar7 (j := (0 : Int32)) hin7 (g := (mkF m 31 #[.val (.ref a1), .val (.int 0), .val (.ref a2), .val (.int 0), .val (.int 3), .val (.int 0), .val (.int c0)] [(.int (c0.toInt8.toInt32)), (.int 0), (.ref a2)])) rfl rfl (hb hby d6_31)
    have N7 := Fr.snoc X7 N0 g2
    have zs8 : n0 ≤ h7.size := Nat.le_trans Z0 (Keep.of_wr W7).1
    have kc9 : Keep h0 h7 [a2] := kc0.wr W7 (Or.inl (List.mem_of_getElem? (i := 0) rfl))
    have V7 : Arv Z h7 a2 kb .byte (3 : Int32) [(.int (nar .byte (c0.toInt8.toInt32))), (.int 0), (.int 0)] (.int 0) := Arv.set Ar7 q7 Sz7 Ng7 Hs7 Gt7 (fits_nar_byte _) W7 0 rfl (Nat.le_of_ble_eq_true rfl)
    have pre10 : own_Go p e below S0 (T7.setTop (mkF m 12 #[.val (.ref a1), .val (.int 1), .val (.ref a2), .val (.int 1), .val (.int 3), .val (.int 1), .val (.int c0)] [(.int 1), (.ref a1)])) := by
      intro t kt
      refine pre6 t ?_
      refine st7 _ ?_
      refine XS.iinc X7.here hx rfl (hb hby d6_32) rfl (l' := #[.val (.ref a1), .val (.int 1), .val (.ref a2), .val (.int 0), .val (.int 3), .val (.int 0), .val (.int c0)]) rfl ?_
      refine XS.iinc X7.here hx rfl (hb hby d6_35) rfl (l' := #[.val (.ref a1), .val (.int 1), .val (.ref a2), .val (.int 1), .val (.int 3), .val (.int 0), .val (.int c0)]) rfl ?_
      refine XS.iinc X7.here hx rfl (hb hby d6_38) rfl (l' := #[.val (.ref a1), .val (.int 1), .val (.ref a2), .val (.int 1), .val (.int 3), .val (.int 1), .val (.int c0)]) rfl ?_
      refine XS.goto X7.here hx rfl (pc0 := 41) (pc' := 3) rfl (hb hby d6_41) (by decide) (by decide) ?_
      refine XS.iload X7.here hx rfl (hb hby d6_3) rfl ?_
      show Steps p.tables e below (T7.setTop (mkF m 5 #[.val (.ref a1), .val (.int 1), .val (.ref a2), .val (.int 1), .val (.int 3), .val (.int 1), .val (.int c0)] [(.int 1)])) _
      refine XS.iload X7.here hx rfl (hb hby d6_5) rfl ?_
      refine XS.icmpNo X7.here hx rfl (hb hby d6_7) rfl (tlt (by decide : (1 : Int32) < (3 : Int32))).2.1 ?_
      refine XS.aloadN X7.here hx rfl (hb hby d6_10) rfl rfl ?_
      refine XS.iloadN X7.here hx rfl (hb hby d6_11) rfl ?_
      exact kt
    have f11 : Arv Z h7 a1 kc .char (3 : Int32) [(.int c0), (.int c1), (.int c2)] (.int 0) := (VC.other W7 n12)
    obtain ⟨cl12, Ar12, -, Sz12, -, Hs12, -⟩ := id f11
    have hin12 : ¬ ((1 : Int32) < 0 ∨ cl12.slots.size ≤ ((1 : Int32)).toNatClampNeg) := inb_of Sz12 ⟨by decide, by decide⟩
    have pre14 : own_Go p e below S0 (T7.setTop (mkF m 20 #[.val (.ref a1), .val (.int 1), .val (.ref a2), .val (.int 1), .val (.int 3), .val (.int 1), .val (.int c1)] [(.int 255), (.int c1)])) := by
      intro t kt
      refine pre10 t ?_
      refine X7.caload hx (j := (1 : Int32)) (v := (.int c1)) (by rw [e7]; exact Ar12.1) (State.isArrayOf_alike hZ.alike Ar12.2.1) Ar12.2.2 hin12 (Hs12.at hin12 rfl) (g := (mkF m 12 #[.val (.ref a1), .val (.int 1), .val (.ref a2), .val (.int 1), .val (.int 3), .val (.int 1), .val (.int c0)] [(.int 1), (.ref a1)])) rfl rfl (hb hby d6_12) _ ?_
      refine XS.istore X7.here hx rfl (hb hby d6_13) rfl (l' := #[.val (.ref a1), .val (.int 1), .val (.ref a2), .val (.int 1), .val (.int 3), .val (.int 1), .val (.int c1)]) rfl ?_
      refine XS.iload X7.here hx rfl (hb hby d6_15) rfl ?_
      refine XS.sipush X7.here hx rfl (hb hby d6_17) ?_
      exact kt
    by_cases hc13 : (255 : Int32) < c1
    · have pre15 : own_Go p e below S0 (T7.setTop (mkF m 25 #[.val (.ref a1), .val (.int 1), .val (.ref a2), .val (.int 1), .val (.int 3), .val (.int 1), .val (.int c1)] [(.int 1)])) := by
        intro t kt
        refine pre14 t ?_
        refine XS.icmpNo X7.here hx rfl (hb hby d6_20) rfl (tlt hc13).2.2.2 ?_
        refine XS.iload X7.here hx rfl (hb hby d6_23) rfl ?_
        exact kt
      obtain ⟨fs, hr, hrun, hended, hW, hsame⟩ := X7.leave (v := some (.int 1)) (fun h => by rw [Bd.returns] at h; cases h)
      refine ⟨_, _, fin _ (pre15 _ ?_), hrun, hended, _, _, rfl, ?_, ⟨_, rfl⟩, hW, hsame.mono (by decide) (by decide)⟩
      · exact retI X7 hx Bd.returns (hb hby d6_25) hr
      · show Qcmp5_3 Z a1 a2 kc kb c0 c1 c2 h0 n0 _ T7.heap _
        rw [e7]
        exact ⟨(1 : Int32), rfl, N7, kc9, (Or.inr (Or.inr (Or.inl ⟨rfl, hc13⟩)))⟩
    · have pre16 : own_Go p e below S0 (T7.setTop (mkF m 31 #[.val (.ref a1), .val (.int 1), .val (.ref a2), .val (.int 1), .val (.int 3), .val (.int 1), .val (.int c1)] [(.int (c1.toInt8.toInt32)), (.int 1), (.ref a2)])) := by
        intro t kt
        refine pre14 t ?_
        refine XS.icmpYes X7.here hx rfl (pc0 := 20) (pc' := 26) rfl (hb hby d6_20) rfl (flt hc13).2.2.2 (by decide) (by decide) ?_
        refine XS.aloadN X7.here hx rfl (hb hby d6_26) rfl rfl ?_
        refine XS.iloadN X7.here hx rfl (hb hby d6_27) rfl ?_
        refine XS.iload X7.here hx rfl (hb hby d6_28) rfl ?_
        refine XS.i2b X7.here hx rfl (hb hby d6_30) rfl ?_
        exact kt
      obtain ⟨cl17, Ar17, q17, Sz17, Ng17, Hs17, Gt17⟩ := id V7
      have hin17 : ¬ ((1 : Int32) < 0 ∨ cl17.slots.size ≤ ((1 : Int32)).toNatClampNeg) := inb_of Sz17 ⟨by decide, by decide⟩
      obtain ⟨T17, h17, X17, e17, W17, st17⟩ := stB X7 hx hZ e7 Ar17 (j := (1 : Int32)) hin17 (g := (mkF m 31 #[.val (.ref a1), .val (.int 1), .val (.ref a2), .val (.int 1), .val (.int 3), .val (.int 1), .val (.int c1)] [(.int (c1.toInt8.toInt32)), (.int 1), (.ref a2)])) rfl rfl (hb hby d6_31)
      have N17 := Fr.snoc X17 N7 g2
      have zs18 : n0 ≤ h17.size := Nat.le_trans zs8 (Keep.of_wr W17).1
      have kc19 : Keep h0 h17 [a2] := kc9.wr W17 (Or.inl (List.mem_of_getElem? (i := 0) rfl))
      have V17 : Arv Z h17 a2 kb .byte (3 : Int32) [(.int (nar .byte (c0.toInt8.toInt32))), (.int (nar .byte (c1.toInt8.toInt32))), (.int 0)] (.int 0) := Arv.set Ar17 q17 Sz17 Ng17 Hs17 Gt17 (fits_nar_byte _) W17 1 rfl (Nat.le_of_ble_eq_true rfl)
      have pre20 : own_Go p e below S0 (T17.setTop (mkF m 12 #[.val (.ref a1), .val (.int 2), .val (.ref a2), .val (.int 2), .val (.int 3), .val (.int 2), .val (.int c1)] [(.int 2), (.ref a1)])) := by
        intro t kt
        refine pre16 t ?_
        refine st17 _ ?_
        refine XS.iinc X17.here hx rfl (hb hby d6_32) rfl (l' := #[.val (.ref a1), .val (.int 2), .val (.ref a2), .val (.int 1), .val (.int 3), .val (.int 1), .val (.int c1)]) rfl ?_
        refine XS.iinc X17.here hx rfl (hb hby d6_35) rfl (l' := #[.val (.ref a1), .val (.int 2), .val (.ref a2), .val (.int 2), .val (.int 3), .val (.int 1), .val (.int c1)]) rfl ?_
        refine XS.iinc X17.here hx rfl (hb hby d6_38) rfl (l' := #[.val (.ref a1), .val (.int 2), .val (.ref a2), .val (.int 2), .val (.int 3), .val (.int 2), .val (.int c1)]) rfl ?_
        refine XS.goto X17.here hx rfl (pc0 := 41) (pc' := 3) rfl (hb hby d6_41) (by decide) (by decide) ?_
        refine XS.iload X17.here hx rfl (hb hby d6_3) rfl ?_
        show Steps p.tables e below (T17.setTop (mkF m 5 #[.val (.ref a1), .val (.int 2), .val (.ref a2), .val (.int 2), .val (.int 3), .val (.int 2), .val (.int c1)] [(.int 2)])) _
        refine XS.iload X17.here hx rfl (hb hby d6_5) rfl ?_
        refine XS.icmpNo X17.here hx rfl (hb hby d6_7) rfl (tlt (by decide : (2 : Int32) < (3 : Int32))).2.1 ?_
        refine XS.aloadN X17.here hx rfl (hb hby d6_10) rfl rfl ?_
        refine XS.iloadN X17.here hx rfl (hb hby d6_11) rfl ?_
        exact kt
      have f21 : Arv Z h17 a1 kc .char (3 : Int32) [(.int c0), (.int c1), (.int c2)] (.int 0) := (f11.other W17 n12)
      obtain ⟨cl22, Ar22, -, Sz22, -, Hs22, -⟩ := id f21
      have hin22 : ¬ ((2 : Int32) < 0 ∨ cl22.slots.size ≤ ((2 : Int32)).toNatClampNeg) := inb_of Sz22 ⟨by decide, by decide⟩
      have pre24 : own_Go p e below S0 (T17.setTop (mkF m 20 #[.val (.ref a1), .val (.int 2), .val (.ref a2), .val (.int 2), .val (.int 3), .val (.int 2), .val (.int c2)] [(.int 255), (.int c2)])) := by
        intro t kt
        refine pre20 t ?_
        refine X17.caload hx (j := (2 : Int32)) (v := (.int c2)) (by rw [e17]; exact Ar22.1) (State.isArrayOf_alike hZ.alike Ar22.2.1) Ar22.2.2 hin22 (Hs22.at hin22 rfl) (g := (mkF m 12 #[.val (.ref a1), .val (.int 2), .val (.ref a2), .val (.int 2), .val (.int 3), .val (.int 2), .val (.int c1)] [(.int 2), (.ref a1)])) rfl rfl (hb hby d6_12) _ ?_
        refine XS.istore X17.here hx rfl (hb hby d6_13) rfl (l' := #[.val (.ref a1), .val (.int 2), .val (.ref a2), .val (.int 2), .val (.int 3), .val (.int 2), .val (.int c2)]) rfl ?_
        refine XS.iload X17.here hx rfl (hb hby d6_15) rfl ?_
        refine XS.sipush X17.here hx rfl (hb hby d6_17) ?_
        exact kt
      by_cases hc23 : (255 : Int32) < c2
      · have pre25 : own_Go p e below S0 (T17.setTop (mkF m 25 #[.val (.ref a1), .val (.int 2), .val (.ref a2), .val (.int 2), .val (.int 3), .val (.int 2), .val (.int c2)] [(.int 2)])) := by
          intro t kt
          refine pre24 t ?_
          refine XS.icmpNo X17.here hx rfl (hb hby d6_20) rfl (tlt hc23).2.2.2 ?_
          refine XS.iload X17.here hx rfl (hb hby d6_23) rfl ?_
          exact kt
        obtain ⟨fs, hr, hrun, hended, hW, hsame⟩ := X17.leave (v := some (.int 2)) (fun h => by rw [Bd.returns] at h; cases h)
        refine ⟨_, _, fin _ (pre25 _ ?_), hrun, hended, _, _, rfl, ?_, ⟨_, rfl⟩, hW, hsame.mono (by decide) (by decide)⟩
        · exact retI X17 hx Bd.returns (hb hby d6_25) hr
        · show Qcmp5_3 Z a1 a2 kc kb c0 c1 c2 h0 n0 _ T17.heap _
          rw [e17]
          exact ⟨(2 : Int32), rfl, N17, kc19, (Or.inr (Or.inr (Or.inr (⟨rfl, hc23⟩))))⟩
      · have pre26 : own_Go p e below S0 (T17.setTop (mkF m 31 #[.val (.ref a1), .val (.int 2), .val (.ref a2), .val (.int 2), .val (.int 3), .val (.int 2), .val (.int c2)] [(.int (c2.toInt8.toInt32)), (.int 2), (.ref a2)])) := by
          intro t kt
          refine pre24 t ?_
          refine XS.icmpYes X17.here hx rfl (pc0 := 20) (pc' := 26) rfl (hb hby d6_20) rfl (flt hc23).2.2.2 (by decide) (by decide) ?_
          refine XS.aloadN X17.here hx rfl (hb hby d6_26) rfl rfl ?_
          refine XS.iloadN X17.here hx rfl (hb hby d6_27) rfl ?_
          refine XS.iload X17.here hx rfl (hb hby d6_28) rfl ?_
          refine XS.i2b X17.here hx rfl (hb hby d6_30) rfl ?_
          exact kt
        obtain ⟨cl27, Ar27, q27, Sz27, Ng27, Hs27, Gt27⟩ := id V17
        have hin27 : ¬ ((2 : Int32) < 0 ∨ cl27.slots.size ≤ ((2 : Int32)).toNatClampNeg) := inb_of Sz27 ⟨by decide, by decide⟩
        obtain ⟨T27, h27, X27, e27, W27, st27⟩ := stB X17 hx hZ e17 Ar27 (j := (2 : Int32)) hin27 (g := (mkF m 31 #[.val (.ref a1), .val (.int 2), .val (.ref a2), .val (.int 2), .val (.int 3), .val (.int 2), .val (.int c2)] [(.int (c2.toInt8.toInt32)), (.int 2), (.ref a2)])) rfl rfl (hb hby d6_31)
        have N27 := Fr.snoc X27 N17 g2
        have zs28 : n0 ≤ h27.size := Nat.le_trans zs18 (Keep.of_wr W27).1
        have kc29 : Keep h0 h27 [a2] := kc19.wr W27 (Or.inl (List.mem_of_getElem? (i := 0) rfl))
        have V27 : Arv Z h27 a2 kb .byte (3 : Int32) [(.int (nar .byte (c0.toInt8.toInt32))), (.int (nar .byte (c1.toInt8.toInt32))), (.int (nar .byte (c2.toInt8.toInt32)))] (.int 0) := Arv.set Ar27 q27 Sz27 Ng27 Hs27 Gt27 (fits_nar_byte _) W27 2 rfl (Nat.le_of_ble_eq_true rfl)
        have pre30 : own_Go p e below S0 (T27.setTop (mkF m 46 #[.val (.ref a1), .val (.int 3), .val (.ref a2), .val (.int 3), .val (.int 3), .val (.int 3), .val (.int c2)] [(.int 3)])) := by
          intro t kt
          refine pre26 t ?_
          refine st27 _ ?_
          refine XS.iinc X27.here hx rfl (hb hby d6_32) rfl (l' := #[.val (.ref a1), .val (.int 3), .val (.ref a2), .val (.int 2), .val (.int 3), .val (.int 2), .val (.int c2)]) rfl ?_
          refine XS.iinc X27.here hx rfl (hb hby d6_35) rfl (l' := #[.val (.ref a1), .val (.int 3), .val (.ref a2), .val (.int 3), .val (.int 3), .val (.int 2), .val (.int c2)]) rfl ?_
          refine XS.iinc X27.here hx rfl (hb hby d6_38) rfl (l' := #[.val (.ref a1), .val (.int 3), .val (.ref a2), .val (.int 3), .val (.int 3), .val (.int 3), .val (.int c2)]) rfl ?_
          refine XS.goto X27.here hx rfl (pc0 := 41) (pc' := 3) rfl (hb hby d6_41) (by decide) (by decide) ?_
          refine XS.iload X27.here hx rfl (hb hby d6_3) rfl ?_
          show Steps p.tables e below (T27.setTop (mkF m 5 #[.val (.ref a1), .val (.int 3), .val (.ref a2), .val (.int 3), .val (.int 3), .val (.int 3), .val (.int c2)] [(.int 3)])) _
          refine XS.iload X27.here hx rfl (hb hby d6_5) rfl ?_
          refine XS.icmpYes X27.here hx rfl (pc0 := 7) (pc' := 44) rfl (hb hby d6_7) rfl (flt (by decide : ¬ ((3 : Int32) < (3 : Int32)))).2.1 (by decide) (by decide) ?_
          refine XS.iload X27.here hx rfl (hb hby d6_44) rfl ?_
          exact kt
        obtain ⟨fs, hr, hrun, hended, hW, hsame⟩ := X27.leave (v := some (.int 3)) (fun h => by rw [Bd.returns] at h; cases h)
        refine ⟨_, _, fin _ (pre30 _ ?_), hrun, hended, _, _, rfl, ?_, ⟨_, rfl⟩, hW, hsame.mono (by decide) (by decide)⟩
        · exact retI X27 hx Bd.returns (hb hby d6_46) hr
        · show Qcmp5_3 Z a1 a2 kc kb c0 c1 c2 h0 n0 _ T27.heap _
          rw [e27]
          exact ⟨(3 : Int32), rfl, N27, kc29, (Or.inl ⟨rfl, ⟨⟨(own_fitAt VC 0 (by decide) rfl).1, own_ltOf hc3⟩, ⟨⟨(own_fitAt VC 1 (by decide) rfl).1, own_ltOf hc13⟩, ⟨⟨(own_fitAt VC 2 (by decide) rfl).1, own_ltOf hc23⟩, trivial⟩⟩⟩, V27⟩)⟩

theorem ef_nfor_3 (m : MethodId)  : entryFrame m #[(.int 3)] 1 = mkF m 0 #[.val (.int 3)] [] := by first | (simp [entryFrame, mkF, argsToLocals, Value.category]; done) | rfl
def Qnfor_3 (Z : State)  (h0 : Heap) (n0 : Nat) (v : Option Value) (h : Heap) (L : List Loc) : Prop := ∃ b : Addr, ∃ kb : ClassId, v = (some (.ref b)) ∧ Fr n0 L ∧ Keep h0 h [] ∧ h0.size ≤ b ∧ Arv Z h b kb .byte (6 : Int32) [(.int 0), (.int 0), (.int 0), (.int 0), (.int 0), (.int 0)] (.int 0)
set_option maxRecDepth 65536 in
set_option maxHeartbeats 40000000 in
theorem rmnfor_3 (l : Launch) (Z : State) (a0 : Array Value) (hw : ∀ d ∈ tables_1, d.before a0 Z = true) (ws : List Jvm.Cond)  (h0 : Heap) (n0 : Nat) (Z0 : n0 ≤ h0.size) :
    MetFree l own_m27 (head1 (Jvm.Cond.code own_m27 jdk_52_method_2_code 1 (some (.array .byte)) :: ws) (own_r 1 1 6 12)) (fun a U => a = #[(.int 3)] ∧ Z.Warmed39 U.vm ∧ U.heap = h0) (fun _ _ _ _ _ => True) (fun _ U o U' => ∃ v L, o = .returned v ∧ Qnfor_3 Z  h0 n0 v U'.heap L ∧ FrameEnd U o U' L (own_r 1 1 6 12).cells (own_r 1 1 6 12).slots) := by
  refine MetFree.of_bodySF (plainFor_of_name pn_27) hisR ?_
  intro p e s m args below meth c s₁ Bd hml0 hP hK
  obtain ⟨rfl, hZ, hh⟩ := hP
  have hx := Bd.exec
  have hby := Bd.bytes
  have hml : c.maxLocals = 1 := hml0
  have hown0 := findClass_of_methodNamed Bd.named
  have hown : s.vm.findClass "java/lang/StringUTF16" = some m.cls := hown0
  have hnm := (name_of_methodNamed Bd.named Bd.method).1
  have X0 : Stand p l e (own_r 1 1 6 12) s m #[(.int 3)] below meth c s₁ [] 0 0 := Stand.of_body Bd
  have e0 : s₁.heap = h0 := by rw [← hh, Bd.state]; rfl
  have N0 := Fr.nil n0
  obtain ⟨S0, hS0⟩ : ∃ z, z = s₁.setTop (entryFrame m #[(.int 3)] 1) := ⟨_, rfl⟩
  have pre0 : own_Go p e below S0 (s₁.setTop (mkF m 0 #[.val (.int 3)] [])) := fun t k => by rw [hS0]; exact castTop (ef_nfor_3 m ) k
  have fin : ∀ t, Steps p.tables e below S0 t → Steps p.tables e below (s₁.setTop (entryFrame m #[(.int 3)] 1)) t := fun t k => by rw [hS0] at k; exact k
  have kc0 : Keep h0 h0 [] := Keep.refl _ _
  have pre1 : own_Go p e below S0 (s₁.setTop (mkF m 1 #[.val (.int 3)] [(.int 3)])) := by
    intro t kt
    refine pre0 t ?_
    refine XS.iloadN X0.here hx rfl (hb hby d27_0) rfl ?_
    exact kt
  obtain ⟨_, _, ⟨T2, L2, k2, n2⟩, -, X2, ⟨Lc2, hQ2, l2, y2, z2⟩, st2⟩ := Jvm.LawKit.callS X0 hx (y := own_m28) hown (mvT hZ (hw _ (own_w 125 rfl))) (mvT hZ (hw _ (own_w 126 rfl))) (mvT hZ (hw _ (own_w 26 rfl))) (mvT hZ (hw _ (own_w 127 rfl))) (by decide) (backOf (W := 0) (rmnlen l Z a0 hw [] (3 : Int32) h0 n0 Z0 (by decide) (by decide)) hZ (hw _ (own_w 127 rfl)) (hw _ (own_w 26 rfl)) (by decide) (by decide)) (g := (mkF m 1 #[.val (.int 3)] [(.int 3)])) rfl (by rw [hml]; rfl) (argsL := [(.int 3)]) (rest := []) (lenOf pd_1 rfl) rfl (by show 2 * 0 + _ ≤ _; exact Nat.le_of_eq rfl) (hb hby d27_1) (fun _ _ => ⟨rfl, e0, (by decide : 0 + 0 ≤ _), (by decide : 0 + 0 ≤ _)⟩)
  dsimp only [Pt.U, Pt.locs, Pt.cells, Pt.slots] at X2 l2 y2 z2 st2 hQ2
  subst l2 y2 z2
  obtain ⟨rfl, Nq2, eq2⟩ := hQ2
  have N2 := Fr.app N0 Nq2
  have pre3 : own_Go p e below S0 (T2.setTop (mkF m 4 #[.val (.int 3)] [(.int (own_nbl (3 : Int32)))])) := by
    intro t kt
    refine pre1 t ?_
    refine st2 _ ?_
    show Steps p.tables e below (T2.setTop (mkF m 4 #[.val (.int 3)] [(.int (own_nbl (3 : Int32)))])) _
    exact kt
  have pre4 : own_Go p e below S0 (T2.setTop (mkF m 4 #[.val (.int 3)] [(.int 6)])) := by
    intro t kt
    refine pre3 t ?_
    rw [(by decide : (own_nbl (3 : Int32)) = (6 : Int32))]
    exact kt
  obtain ⟨T5, h5, k5, X5, e5, E5, A5, st5⟩ := newP X2 hx hZ (hw _ (own_w 28 rfl)) eq2 (g := (mkF m 4 #[.val (.int 3)] [(.int 6)])) rfl (hb hby d27_4) rfl (by decide) (cap := 6) (by decide) (by decide) (by decide) (by decide)
  obtain ⟨b5, g5⟩ : ∃ z, z = h0.size := ⟨_, rfl⟩
  rw [← g5] at A5 st5
  have ge6 : n0 ≤ b5 := Nat.le_trans Z0 (Nat.le_of_eq g5.symm)
  have sz7 : h0.size ≤ b5 := Nat.le_trans kc0.1 (Nat.le_of_eq g5.symm)
  have zs8 : n0 ≤ h5.size := Nat.le_trans Z0 E5.1
  have kc9 : Keep h0 h5 [] := kc0.ext E5
  have V5 : Arv Z h5 b5 k5 .byte (6 : Int32) [(.int 0), (.int 0), (.int 0), (.int 0), (.int 0), (.int 0)] (.int 0) := (Arv.new A5 (by decide)).pad (pad_rep [] (.int 0) 6)
  have pre10 : own_Go p e below S0 (T5.setTop (mkF m 6 #[.val (.int 3)] [(.ref b5)])) := by
    intro t kt
    refine pre4 t ?_
    refine st5 _ ?_
    exact kt
  obtain ⟨fs, hr, hrun, hended, hW, hsame⟩ := X5.leave (v := some (.ref b5)) (fun h => by rw [Bd.returns] at h; cases h)
  refine ⟨_, _, fin _ (pre10 _ ?_), hrun, hended, _, _, rfl, ?_, ⟨_, rfl⟩, hW, hsame.mono (by decide) (by decide)⟩
  · jvm_step X5.here [X5.here.top, hx, (hb hby d27_6), X5.method', Bd.returns, Value.isRef, FieldType.isReference]
    first | (intro acts; rw [hr _ acts rfl rfl rfl]) | rw [hr _ _ rfl rfl rfl]
    exact Steps.refl _
  · show Qnfor_3 Z  h0 n0 _ T5.heap _
    rw [e5]
    exact ⟨b5, k5, rfl, N2, kc9, sz7, V5⟩

theorem ef_putc_0_6 (m : MethodId) (x0 : Addr) (x2 : Int32) : entryFrame m #[(.ref x0), (.int 0), (.int x2)] 3 = mkF m 0 #[.val (.ref x0), .val (.int 0), .val (.int x2)] [] := by first | (simp [entryFrame, mkF, argsToLocals, Value.category]; done) | rfl
def Qputc_0_6 (Z : State) (a1 : Addr) (p3 : Int32) (k1 : ClassId) (u0 : Value) (u1 : Value) (u2 : Value) (u3 : Value) (u4 : Value) (u5 : Value) (h0 : Heap) (n0 : Nat) (v : Option Value) (h : Heap) (L : List Loc) : Prop := v = none ∧ Fr n0 L ∧ Keep h0 h [a1] ∧ Arv Z h a1 k1 .byte (6 : Int32) [(.int (nar .byte ((p3 >>> ((0 : Int32) &&& 31)).toInt8.toInt32))), (.int (nar .byte ((p3 >>> ((8 : Int32) &&& 31)).toInt8.toInt32))), u2, u3, u4, u5] (.int 0)
set_option maxRecDepth 65536 in
set_option maxHeartbeats 40000000 in
theorem rmputc_0_6 (l : Launch) (Z : State) (a0 : Array Value) (hw : ∀ d ∈ tables_1, d.before a0 Z = true) (ws : List Jvm.Cond) (a1 : Addr) (p3 : Int32) (k1 : ClassId) (u0 : Value) (u1 : Value) (u2 : Value) (u3 : Value) (u4 : Value) (u5 : Value) (h0 : Heap) (n0 : Nat) (Z0 : n0 ≤ h0.size) (O0 : Old Z n0 h0) (qU : (own_SU Z)) (g1 : n0 ≤ a1) (V1 : Arv Z h0 a1 k1 .byte (6 : Int32) [u0, u1, u2, u3, u4, u5] (.int 0)) :
    MetFree l own_m29 (head1 (Jvm.Cond.code own_m29 jdk_52_method_4_code 3 none :: ws) (own_r 0 0 0 0)) (fun a U => a = #[(.ref a1), (.int 0), (.int p3)] ∧ Z.Warmed39 U.vm ∧ U.heap = h0) (fun _ _ _ _ _ => True) (fun _ U o U' => ∃ v L, o = .returned v ∧ Qputc_0_6 Z a1 p3 k1 u0 u1 u2 u3 u4 u5 h0 n0 v U'.heap L ∧ FrameEnd U o U' L (own_r 0 0 0 0).cells (own_r 0 0 0 0).slots) := by
  refine MetFree.of_bodySF (plainFor_of_name pn_29) hisR ?_
  intro p e s m args below meth c s₁ Bd hml0 hP hK
  obtain ⟨rfl, hZ, hh⟩ := hP
  have hx := Bd.exec
  have hby := Bd.bytes
  have hml : c.maxLocals = 3 := hml0
  have hown0 := findClass_of_methodNamed Bd.named
  have hown : s.vm.findClass "java/lang/StringUTF16" = some m.cls := hown0
  have hnm := (name_of_methodNamed Bd.named Bd.method).1
  have X0 : Stand p l e (own_r 0 0 0 0) s m #[(.ref a1), (.int 0), (.int p3)] below meth c s₁ [] 0 0 := Stand.of_body Bd
  have e0 : s₁.heap = h0 := by rw [← hh, Bd.state]; rfl
  have N0 := Fr.nil n0
  obtain ⟨S0, hS0⟩ : ∃ z, z = s₁.setTop (entryFrame m #[(.ref a1), (.int 0), (.int p3)] 3) := ⟨_, rfl⟩
  have pre0 : own_Go p e below S0 (s₁.setTop (mkF m 0 #[.val (.ref a1), .val (.int 0), .val (.int p3)] [])) := fun t k => by rw [hS0]; exact castTop (ef_putc_0_6 m a1 p3) k
  have fin : ∀ t, Steps p.tables e below S0 t → Steps p.tables e below (s₁.setTop (entryFrame m #[(.ref a1), (.int 0), (.int p3)] 3)) t := fun t k => by rw [hS0] at k; exact k
  have kc0 : Keep h0 h0 [a1] := Keep.refl _ _
  obtain ⟨T1, X1, e1, st1⟩ := getS2 X0 hx hZ hown (host := "") (Or.inl (hw _ (own_w 132 rfl))) Via.refl e0 (qU.1.ext O0.2) (g := (mkF m 0 #[.val (.ref a1), .val (.int 0), .val (.int p3)] [])) rfl (hb hby d29_0)
  have pre2 : own_Go p e below S0 (T1.setTop (mkF m 38 #[.val (.ref a1), .val (.int 1), .val (.int p3)] [(.int p3), (.int 0), (.ref a1)])) := by
    intro t kt
    refine pre0 t ?_
    refine st1 _ ?_
    refine XS.ifYes X1.here hx rfl (pc0 := 3) (pc' := 28) rfl (hb hby d29_3) rfl ((if0 _ _).trans (feq (by decide : ¬ ((1 : Int32) = (0 : Int32)))).2) (by decide) (by decide) ?_
    refine XS.iloadN X1.here hx rfl (hb hby d29_28) rfl ?_
    refine XS.iconst X1.here hx rfl (hb hby d29_29) ?_
    refine XS.ishl X1.here hx rfl (hb hby d29_30) rfl ?_
    refine XS.istoreN X1.here hx rfl (hb hby d29_31) rfl (l' := #[.val (.ref a1), .val (.int 0), .val (.int p3)]) rfl ?_
    show Steps p.tables e below (T1.setTop (mkF m 32 #[.val (.ref a1), .val (.int 0), .val (.int p3)] [])) _
    refine XS.aloadN X1.here hx rfl (hb hby d29_32) rfl rfl ?_
    refine XS.iloadN X1.here hx rfl (hb hby d29_33) rfl ?_
    refine XS.iinc X1.here hx rfl (hb hby d29_34) rfl (l' := #[.val (.ref a1), .val (.int 1), .val (.int p3)]) rfl ?_
    refine XS.iloadN X1.here hx rfl (hb hby d29_37) rfl ?_
    exact kt
  obtain ⟨T3, X3, e3, st3⟩ := getS2 X1 hx hZ hown (host := "") (Or.inl (hw _ (own_w 133 rfl))) Via.refl e1 (qU.2.1.ext O0.2) (g := (mkF m 38 #[.val (.ref a1), .val (.int 1), .val (.int p3)] [(.int p3), (.int 0), (.ref a1)])) rfl (hb hby d29_38)
  have pre4 : own_Go p e below S0 (T3.setTop (mkF m 43 #[.val (.ref a1), .val (.int 1), .val (.int p3)] [(.int ((p3 >>> ((0 : Int32) &&& 31)).toInt8.toInt32)), (.int 0), (.ref a1)])) := by
    intro t kt
    refine pre2 t ?_
    refine st3 _ ?_
    refine XS.ishr X3.here hx rfl (hb hby d29_41) rfl ?_
    refine XS.i2b X3.here hx rfl (hb hby d29_42) rfl ?_
    exact kt
  obtain ⟨cl5, Ar5, q5, Sz5, Ng5, Hs5, Gt5⟩ := id V1
  have hin5 : ¬ ((0 : Int32) < 0 ∨ cl5.slots.size ≤ ((0 : Int32)).toNatClampNeg) := inb_of Sz5 ⟨by decide, by decide⟩
  obtain ⟨T5, h5, X5, e5, W5, st5⟩ := stB X3 hx hZ e3 Ar5 (j := (0 : Int32)) hin5 (g := (mkF m 43 #[.val (.ref a1), .val (.int 1), .val (.int p3)] [(.int ((p3 >>> ((0 : Int32) &&& 31)).toInt8.toInt32)), (.int 0), (.ref a1)])) rfl rfl (hb hby d29_43)
  have N5 := Fr.snoc X5 N0 g1
  have zs6 : n0 ≤ h5.size := Nat.le_trans Z0 (Keep.of_wr W5).1
  have kc7 : Keep h0 h5 [a1] := kc0.wr W5 (Or.inl (List.mem_of_getElem? (i := 0) rfl))
  have V5 : Arv Z h5 a1 k1 .byte (6 : Int32) [(.int (nar .byte ((p3 >>> ((0 : Int32) &&& 31)).toInt8.toInt32))), u1, u2, u3, u4, u5] (.int 0) := Arv.set Ar5 q5 Sz5 Ng5 Hs5 Gt5 (fits_nar_byte _) W5 0 rfl (Nat.le_of_ble_eq_true rfl)
  have pre8 : own_Go p e below S0 (T5.setTop (mkF m 47 #[.val (.ref a1), .val (.int 1), .val (.int p3)] [(.int p3), (.int 1), (.ref a1)])) := by
    intro t kt
    refine pre4 t ?_
    refine st5 _ ?_
    refine XS.aloadN X5.here hx rfl (hb hby d29_44) rfl rfl ?_
    refine XS.iloadN X5.here hx rfl (hb hby d29_45) rfl ?_
    refine XS.iloadN X5.here hx rfl (hb hby d29_46) rfl ?_
    exact kt
  have f9 : Old Z n0 h5 := (O0.wr W5 g1)
  obtain ⟨T10, X10, e10, st10⟩ := getS2 X5 hx hZ hown (host := "") (Or.inl (hw _ (own_w 134 rfl))) Via.refl e5 (qU.2.2.ext f9.2) (g := (mkF m 47 #[.val (.ref a1), .val (.int 1), .val (.int p3)] [(.int p3), (.int 1), (.ref a1)])) rfl (hb hby d29_47)
  have pre11 : own_Go p e below S0 (T10.setTop (mkF m 52 #[.val (.ref a1), .val (.int 1), .val (.int p3)] [(.int ((p3 >>> ((8 : Int32) &&& 31)).toInt8.toInt32)), (.int 1), (.ref a1)])) := by
    intro t kt
    refine pre8 t ?_
    refine st10 _ ?_
    refine XS.ishr X10.here hx rfl (hb hby d29_50) rfl ?_
    refine XS.i2b X10.here hx rfl (hb hby d29_51) rfl ?_
    exact kt
  obtain ⟨cl12, Ar12, q12, Sz12, Ng12, Hs12, Gt12⟩ := id V5
  have hin12 : ¬ ((1 : Int32) < 0 ∨ cl12.slots.size ≤ ((1 : Int32)).toNatClampNeg) := inb_of Sz12 ⟨by decide, by decide⟩
  obtain ⟨T12, h12, X12, e12, W12, st12⟩ := stB X10 hx hZ e10 Ar12 (j := (1 : Int32)) hin12 (g := (mkF m 52 #[.val (.ref a1), .val (.int 1), .val (.int p3)] [(.int ((p3 >>> ((8 : Int32) &&& 31)).toInt8.toInt32)), (.int 1), (.ref a1)])) rfl rfl (hb hby d29_52)
  have N12 := Fr.snoc X12 N5 g1
  have zs13 : n0 ≤ h12.size := Nat.le_trans zs6 (Keep.of_wr W12).1
  have kc14 : Keep h0 h12 [a1] := kc7.wr W12 (Or.inl (List.mem_of_getElem? (i := 0) rfl))
  have V12 : Arv Z h12 a1 k1 .byte (6 : Int32) [(.int (nar .byte ((p3 >>> ((0 : Int32) &&& 31)).toInt8.toInt32))), (.int (nar .byte ((p3 >>> ((8 : Int32) &&& 31)).toInt8.toInt32))), u2, u3, u4, u5] (.int 0) := Arv.set Ar12 q12 Sz12 Ng12 Hs12 Gt12 (fits_nar_byte _) W12 1 rfl (Nat.le_of_ble_eq_true rfl)
  have pre15 : own_Go p e below S0 (T12.setTop (mkF m 53 #[.val (.ref a1), .val (.int 1), .val (.int p3)] [])) := by
    intro t kt
    refine pre11 t ?_
    refine st12 _ ?_
    exact kt
  obtain ⟨fs, hr, hrun, hended, hW, hsame⟩ := X12.leave (v := none) (fun _ => rfl)
  refine ⟨_, _, fin _ (pre15 _ ?_), hrun, hended, _, _, rfl, ?_, ⟨_, rfl⟩, hW, hsame.mono (by decide) (by decide)⟩
  · exact X12.returnOut hx Bd.returns (hb hby d29_53) hr
  · show Qputc_0_6 Z a1 p3 k1 u0 u1 u2 u3 u4 u5 h0 n0 _ T12.heap _
    rw [e12]
    exact ⟨rfl, N12, kc14, V12⟩

theorem ef_putc_1_6 (m : MethodId) (x0 : Addr) (x2 : Int32) : entryFrame m #[(.ref x0), (.int 1), (.int x2)] 3 = mkF m 0 #[.val (.ref x0), .val (.int 1), .val (.int x2)] [] := by first | (simp [entryFrame, mkF, argsToLocals, Value.category]; done) | rfl
def Qputc_1_6 (Z : State) (a1 : Addr) (p3 : Int32) (k1 : ClassId) (u0 : Value) (u1 : Value) (u2 : Value) (u3 : Value) (u4 : Value) (u5 : Value) (h0 : Heap) (n0 : Nat) (v : Option Value) (h : Heap) (L : List Loc) : Prop := v = none ∧ Fr n0 L ∧ Keep h0 h [a1] ∧ Arv Z h a1 k1 .byte (6 : Int32) [u0, u1, (.int (nar .byte ((p3 >>> ((0 : Int32) &&& 31)).toInt8.toInt32))), (.int (nar .byte ((p3 >>> ((8 : Int32) &&& 31)).toInt8.toInt32))), u4, u5] (.int 0)
set_option maxRecDepth 65536 in
set_option maxHeartbeats 40000000 in
theorem rmputc_1_6 (l : Launch) (Z : State) (a0 : Array Value) (hw : ∀ d ∈ tables_1, d.before a0 Z = true) (ws : List Jvm.Cond) (a1 : Addr) (p3 : Int32) (k1 : ClassId) (u0 : Value) (u1 : Value) (u2 : Value) (u3 : Value) (u4 : Value) (u5 : Value) (h0 : Heap) (n0 : Nat) (Z0 : n0 ≤ h0.size) (O0 : Old Z n0 h0) (qU : (own_SU Z)) (g1 : n0 ≤ a1) (V1 : Arv Z h0 a1 k1 .byte (6 : Int32) [u0, u1, u2, u3, u4, u5] (.int 0)) :
    MetFree l own_m29 (head1 (Jvm.Cond.code own_m29 jdk_52_method_4_code 3 none :: ws) (own_r 0 0 0 0)) (fun a U => a = #[(.ref a1), (.int 1), (.int p3)] ∧ Z.Warmed39 U.vm ∧ U.heap = h0) (fun _ _ _ _ _ => True) (fun _ U o U' => ∃ v L, o = .returned v ∧ Qputc_1_6 Z a1 p3 k1 u0 u1 u2 u3 u4 u5 h0 n0 v U'.heap L ∧ FrameEnd U o U' L (own_r 0 0 0 0).cells (own_r 0 0 0 0).slots) := by
  refine MetFree.of_bodySF (plainFor_of_name pn_29) hisR ?_
  intro p e s m args below meth c s₁ Bd hml0 hP hK
  obtain ⟨rfl, hZ, hh⟩ := hP
  have hx := Bd.exec
  have hby := Bd.bytes
  have hml : c.maxLocals = 3 := hml0
  have hown0 := findClass_of_methodNamed Bd.named
  have hown : s.vm.findClass "java/lang/StringUTF16" = some m.cls := hown0
  have hnm := (name_of_methodNamed Bd.named Bd.method).1
  have X0 : Stand p l e (own_r 0 0 0 0) s m #[(.ref a1), (.int 1), (.int p3)] below meth c s₁ [] 0 0 := Stand.of_body Bd
  have e0 : s₁.heap = h0 := by rw [← hh, Bd.state]; rfl
  have N0 := Fr.nil n0
  obtain ⟨S0, hS0⟩ : ∃ z, z = s₁.setTop (entryFrame m #[(.ref a1), (.int 1), (.int p3)] 3) := ⟨_, rfl⟩
  have pre0 : own_Go p e below S0 (s₁.setTop (mkF m 0 #[.val (.ref a1), .val (.int 1), .val (.int p3)] [])) := fun t k => by rw [hS0]; exact castTop (ef_putc_1_6 m a1 p3) k
  have fin : ∀ t, Steps p.tables e below S0 t → Steps p.tables e below (s₁.setTop (entryFrame m #[(.ref a1), (.int 1), (.int p3)] 3)) t := fun t k => by rw [hS0] at k; exact k
  have kc0 : Keep h0 h0 [a1] := Keep.refl _ _
  obtain ⟨T1, X1, e1, st1⟩ := getS2 X0 hx hZ hown (host := "") (Or.inl (hw _ (own_w 132 rfl))) Via.refl e0 (qU.1.ext O0.2) (g := (mkF m 0 #[.val (.ref a1), .val (.int 1), .val (.int p3)] [])) rfl (hb hby d29_0)
  have pre2 : own_Go p e below S0 (T1.setTop (mkF m 38 #[.val (.ref a1), .val (.int 3), .val (.int p3)] [(.int p3), (.int 2), (.ref a1)])) := by
    intro t kt
    refine pre0 t ?_
    refine st1 _ ?_
    refine XS.ifYes X1.here hx rfl (pc0 := 3) (pc' := 28) rfl (hb hby d29_3) rfl ((if0 _ _).trans (feq (by decide : ¬ ((1 : Int32) = (0 : Int32)))).2) (by decide) (by decide) ?_
    refine XS.iloadN X1.here hx rfl (hb hby d29_28) rfl ?_
    refine XS.iconst X1.here hx rfl (hb hby d29_29) ?_
    refine XS.ishl X1.here hx rfl (hb hby d29_30) rfl ?_
    refine XS.istoreN X1.here hx rfl (hb hby d29_31) rfl (l' := #[.val (.ref a1), .val (.int 2), .val (.int p3)]) rfl ?_
    show Steps p.tables e below (T1.setTop (mkF m 32 #[.val (.ref a1), .val (.int 2), .val (.int p3)] [])) _
    refine XS.aloadN X1.here hx rfl (hb hby d29_32) rfl rfl ?_
    refine XS.iloadN X1.here hx rfl (hb hby d29_33) rfl ?_
    refine XS.iinc X1.here hx rfl (hb hby d29_34) rfl (l' := #[.val (.ref a1), .val (.int 3), .val (.int p3)]) rfl ?_
    refine XS.iloadN X1.here hx rfl (hb hby d29_37) rfl ?_
    exact kt
  obtain ⟨T3, X3, e3, st3⟩ := getS2 X1 hx hZ hown (host := "") (Or.inl (hw _ (own_w 133 rfl))) Via.refl e1 (qU.2.1.ext O0.2) (g := (mkF m 38 #[.val (.ref a1), .val (.int 3), .val (.int p3)] [(.int p3), (.int 2), (.ref a1)])) rfl (hb hby d29_38)
  have pre4 : own_Go p e below S0 (T3.setTop (mkF m 43 #[.val (.ref a1), .val (.int 3), .val (.int p3)] [(.int ((p3 >>> ((0 : Int32) &&& 31)).toInt8.toInt32)), (.int 2), (.ref a1)])) := by
    intro t kt
    refine pre2 t ?_
    refine st3 _ ?_
    refine XS.ishr X3.here hx rfl (hb hby d29_41) rfl ?_
    refine XS.i2b X3.here hx rfl (hb hby d29_42) rfl ?_
    exact kt
  obtain ⟨cl5, Ar5, q5, Sz5, Ng5, Hs5, Gt5⟩ := id V1
  have hin5 : ¬ ((2 : Int32) < 0 ∨ cl5.slots.size ≤ ((2 : Int32)).toNatClampNeg) := inb_of Sz5 ⟨by decide, by decide⟩
  obtain ⟨T5, h5, X5, e5, W5, st5⟩ := stB X3 hx hZ e3 Ar5 (j := (2 : Int32)) hin5 (g := (mkF m 43 #[.val (.ref a1), .val (.int 3), .val (.int p3)] [(.int ((p3 >>> ((0 : Int32) &&& 31)).toInt8.toInt32)), (.int 2), (.ref a1)])) rfl rfl (hb hby d29_43)
  have N5 := Fr.snoc X5 N0 g1
  have zs6 : n0 ≤ h5.size := Nat.le_trans Z0 (Keep.of_wr W5).1
  have kc7 : Keep h0 h5 [a1] := kc0.wr W5 (Or.inl (List.mem_of_getElem? (i := 0) rfl))
  have V5 : Arv Z h5 a1 k1 .byte (6 : Int32) [u0, u1, (.int (nar .byte ((p3 >>> ((0 : Int32) &&& 31)).toInt8.toInt32))), u3, u4, u5] (.int 0) := Arv.set Ar5 q5 Sz5 Ng5 Hs5 Gt5 (fits_nar_byte _) W5 2 rfl (Nat.le_of_ble_eq_true rfl)
  have pre8 : own_Go p e below S0 (T5.setTop (mkF m 47 #[.val (.ref a1), .val (.int 3), .val (.int p3)] [(.int p3), (.int 3), (.ref a1)])) := by
    intro t kt
    refine pre4 t ?_
    refine st5 _ ?_
    refine XS.aloadN X5.here hx rfl (hb hby d29_44) rfl rfl ?_
    refine XS.iloadN X5.here hx rfl (hb hby d29_45) rfl ?_
    refine XS.iloadN X5.here hx rfl (hb hby d29_46) rfl ?_
    exact kt
  have f9 : Old Z n0 h5 := (O0.wr W5 g1)
  obtain ⟨T10, X10, e10, st10⟩ := getS2 X5 hx hZ hown (host := "") (Or.inl (hw _ (own_w 134 rfl))) Via.refl e5 (qU.2.2.ext f9.2) (g := (mkF m 47 #[.val (.ref a1), .val (.int 3), .val (.int p3)] [(.int p3), (.int 3), (.ref a1)])) rfl (hb hby d29_47)
  have pre11 : own_Go p e below S0 (T10.setTop (mkF m 52 #[.val (.ref a1), .val (.int 3), .val (.int p3)] [(.int ((p3 >>> ((8 : Int32) &&& 31)).toInt8.toInt32)), (.int 3), (.ref a1)])) := by
    intro t kt
    refine pre8 t ?_
    refine st10 _ ?_
    refine XS.ishr X10.here hx rfl (hb hby d29_50) rfl ?_
    refine XS.i2b X10.here hx rfl (hb hby d29_51) rfl ?_
    exact kt
  obtain ⟨cl12, Ar12, q12, Sz12, Ng12, Hs12, Gt12⟩ := id V5
  have hin12 : ¬ ((3 : Int32) < 0 ∨ cl12.slots.size ≤ ((3 : Int32)).toNatClampNeg) := inb_of Sz12 ⟨by decide, by decide⟩
  obtain ⟨T12, h12, X12, e12, W12, st12⟩ := stB X10 hx hZ e10 Ar12 (j := (3 : Int32)) hin12 (g := (mkF m 52 #[.val (.ref a1), .val (.int 3), .val (.int p3)] [(.int ((p3 >>> ((8 : Int32) &&& 31)).toInt8.toInt32)), (.int 3), (.ref a1)])) rfl rfl (hb hby d29_52)
  have N12 := Fr.snoc X12 N5 g1
  have zs13 : n0 ≤ h12.size := Nat.le_trans zs6 (Keep.of_wr W12).1
  have kc14 : Keep h0 h12 [a1] := kc7.wr W12 (Or.inl (List.mem_of_getElem? (i := 0) rfl))
  have V12 : Arv Z h12 a1 k1 .byte (6 : Int32) [u0, u1, (.int (nar .byte ((p3 >>> ((0 : Int32) &&& 31)).toInt8.toInt32))), (.int (nar .byte ((p3 >>> ((8 : Int32) &&& 31)).toInt8.toInt32))), u4, u5] (.int 0) := Arv.set Ar12 q12 Sz12 Ng12 Hs12 Gt12 (fits_nar_byte _) W12 3 rfl (Nat.le_of_ble_eq_true rfl)
  have pre15 : own_Go p e below S0 (T12.setTop (mkF m 53 #[.val (.ref a1), .val (.int 3), .val (.int p3)] [])) := by
    intro t kt
    refine pre11 t ?_
    refine st12 _ ?_
    exact kt
  obtain ⟨fs, hr, hrun, hended, hW, hsame⟩ := X12.leave (v := none) (fun _ => rfl)
  refine ⟨_, _, fin _ (pre15 _ ?_), hrun, hended, _, _, rfl, ?_, ⟨_, rfl⟩, hW, hsame.mono (by decide) (by decide)⟩
  · exact X12.returnOut hx Bd.returns (hb hby d29_53) hr
  · show Qputc_1_6 Z a1 p3 k1 u0 u1 u2 u3 u4 u5 h0 n0 _ T12.heap _
    rw [e12]
    exact ⟨rfl, N12, kc14, V12⟩

theorem ef_putc_2_6 (m : MethodId) (x0 : Addr) (x2 : Int32) : entryFrame m #[(.ref x0), (.int 2), (.int x2)] 3 = mkF m 0 #[.val (.ref x0), .val (.int 2), .val (.int x2)] [] := by first | (simp [entryFrame, mkF, argsToLocals, Value.category]; done) | rfl
def Qputc_2_6 (Z : State) (a1 : Addr) (p3 : Int32) (k1 : ClassId) (u0 : Value) (u1 : Value) (u2 : Value) (u3 : Value) (u4 : Value) (u5 : Value) (h0 : Heap) (n0 : Nat) (v : Option Value) (h : Heap) (L : List Loc) : Prop := v = none ∧ Fr n0 L ∧ Keep h0 h [a1] ∧ Arv Z h a1 k1 .byte (6 : Int32) [u0, u1, u2, u3, (.int (nar .byte ((p3 >>> ((0 : Int32) &&& 31)).toInt8.toInt32))), (.int (nar .byte ((p3 >>> ((8 : Int32) &&& 31)).toInt8.toInt32)))] (.int 0)
set_option maxRecDepth 65536 in
set_option maxHeartbeats 40000000 in
theorem rmputc_2_6 (l : Launch) (Z : State) (a0 : Array Value) (hw : ∀ d ∈ tables_1, d.before a0 Z = true) (ws : List Jvm.Cond) (a1 : Addr) (p3 : Int32) (k1 : ClassId) (u0 : Value) (u1 : Value) (u2 : Value) (u3 : Value) (u4 : Value) (u5 : Value) (h0 : Heap) (n0 : Nat) (Z0 : n0 ≤ h0.size) (O0 : Old Z n0 h0) (qU : (own_SU Z)) (g1 : n0 ≤ a1) (V1 : Arv Z h0 a1 k1 .byte (6 : Int32) [u0, u1, u2, u3, u4, u5] (.int 0)) :
    MetFree l own_m29 (head1 (Jvm.Cond.code own_m29 jdk_52_method_4_code 3 none :: ws) (own_r 0 0 0 0)) (fun a U => a = #[(.ref a1), (.int 2), (.int p3)] ∧ Z.Warmed39 U.vm ∧ U.heap = h0) (fun _ _ _ _ _ => True) (fun _ U o U' => ∃ v L, o = .returned v ∧ Qputc_2_6 Z a1 p3 k1 u0 u1 u2 u3 u4 u5 h0 n0 v U'.heap L ∧ FrameEnd U o U' L (own_r 0 0 0 0).cells (own_r 0 0 0 0).slots) := by
  refine MetFree.of_bodySF (plainFor_of_name pn_29) hisR ?_
  intro p e s m args below meth c s₁ Bd hml0 hP hK
  obtain ⟨rfl, hZ, hh⟩ := hP
  have hx := Bd.exec
  have hby := Bd.bytes
  have hml : c.maxLocals = 3 := hml0
  have hown0 := findClass_of_methodNamed Bd.named
  have hown : s.vm.findClass "java/lang/StringUTF16" = some m.cls := hown0
  have hnm := (name_of_methodNamed Bd.named Bd.method).1
  have X0 : Stand p l e (own_r 0 0 0 0) s m #[(.ref a1), (.int 2), (.int p3)] below meth c s₁ [] 0 0 := Stand.of_body Bd
  have e0 : s₁.heap = h0 := by rw [← hh, Bd.state]; rfl
  have N0 := Fr.nil n0
  obtain ⟨S0, hS0⟩ : ∃ z, z = s₁.setTop (entryFrame m #[(.ref a1), (.int 2), (.int p3)] 3) := ⟨_, rfl⟩
  have pre0 : own_Go p e below S0 (s₁.setTop (mkF m 0 #[.val (.ref a1), .val (.int 2), .val (.int p3)] [])) := fun t k => by rw [hS0]; exact castTop (ef_putc_2_6 m a1 p3) k
  have fin : ∀ t, Steps p.tables e below S0 t → Steps p.tables e below (s₁.setTop (entryFrame m #[(.ref a1), (.int 2), (.int p3)] 3)) t := fun t k => by rw [hS0] at k; exact k
  have kc0 : Keep h0 h0 [a1] := Keep.refl _ _
  obtain ⟨T1, X1, e1, st1⟩ := getS2 X0 hx hZ hown (host := "") (Or.inl (hw _ (own_w 132 rfl))) Via.refl e0 (qU.1.ext O0.2) (g := (mkF m 0 #[.val (.ref a1), .val (.int 2), .val (.int p3)] [])) rfl (hb hby d29_0)
  have pre2 : own_Go p e below S0 (T1.setTop (mkF m 38 #[.val (.ref a1), .val (.int 5), .val (.int p3)] [(.int p3), (.int 4), (.ref a1)])) := by
    intro t kt
    refine pre0 t ?_
    refine st1 _ ?_
    refine XS.ifYes X1.here hx rfl (pc0 := 3) (pc' := 28) rfl (hb hby d29_3) rfl ((if0 _ _).trans (feq (by decide : ¬ ((1 : Int32) = (0 : Int32)))).2) (by decide) (by decide) ?_
    refine XS.iloadN X1.here hx rfl (hb hby d29_28) rfl ?_
    refine XS.iconst X1.here hx rfl (hb hby d29_29) ?_
    refine XS.ishl X1.here hx rfl (hb hby d29_30) rfl ?_
    refine XS.istoreN X1.here hx rfl (hb hby d29_31) rfl (l' := #[.val (.ref a1), .val (.int 4), .val (.int p3)]) rfl ?_
    show Steps p.tables e below (T1.setTop (mkF m 32 #[.val (.ref a1), .val (.int 4), .val (.int p3)] [])) _
    refine XS.aloadN X1.here hx rfl (hb hby d29_32) rfl rfl ?_
    refine XS.iloadN X1.here hx rfl (hb hby d29_33) rfl ?_
    refine XS.iinc X1.here hx rfl (hb hby d29_34) rfl (l' := #[.val (.ref a1), .val (.int 5), .val (.int p3)]) rfl ?_
    refine XS.iloadN X1.here hx rfl (hb hby d29_37) rfl ?_
    exact kt
  obtain ⟨T3, X3, e3, st3⟩ := getS2 X1 hx hZ hown (host := "") (Or.inl (hw _ (own_w 133 rfl))) Via.refl e1 (qU.2.1.ext O0.2) (g := (mkF m 38 #[.val (.ref a1), .val (.int 5), .val (.int p3)] [(.int p3), (.int 4), (.ref a1)])) rfl (hb hby d29_38)
  have pre4 : own_Go p e below S0 (T3.setTop (mkF m 43 #[.val (.ref a1), .val (.int 5), .val (.int p3)] [(.int ((p3 >>> ((0 : Int32) &&& 31)).toInt8.toInt32)), (.int 4), (.ref a1)])) := by
    intro t kt
    refine pre2 t ?_
    refine st3 _ ?_
    refine XS.ishr X3.here hx rfl (hb hby d29_41) rfl ?_
    refine XS.i2b X3.here hx rfl (hb hby d29_42) rfl ?_
    exact kt
  obtain ⟨cl5, Ar5, q5, Sz5, Ng5, Hs5, Gt5⟩ := id V1
  have hin5 : ¬ ((4 : Int32) < 0 ∨ cl5.slots.size ≤ ((4 : Int32)).toNatClampNeg) := inb_of Sz5 ⟨by decide, by decide⟩
  obtain ⟨T5, h5, X5, e5, W5, st5⟩ := stB X3 hx hZ e3 Ar5 (j := (4 : Int32)) hin5 (g := (mkF m 43 #[.val (.ref a1), .val (.int 5), .val (.int p3)] [(.int ((p3 >>> ((0 : Int32) &&& 31)).toInt8.toInt32)), (.int 4), (.ref a1)])) rfl rfl (hb hby d29_43)
  have N5 := Fr.snoc X5 N0 g1
  have zs6 : n0 ≤ h5.size := Nat.le_trans Z0 (Keep.of_wr W5).1
  have kc7 : Keep h0 h5 [a1] := kc0.wr W5 (Or.inl (List.mem_of_getElem? (i := 0) rfl))
  have V5 : Arv Z h5 a1 k1 .byte (6 : Int32) [u0, u1, u2, u3, (.int (nar .byte ((p3 >>> ((0 : Int32) &&& 31)).toInt8.toInt32))), u5] (.int 0) := Arv.set Ar5 q5 Sz5 Ng5 Hs5 Gt5 (fits_nar_byte _) W5 4 rfl (Nat.le_of_ble_eq_true rfl)
  have pre8 : own_Go p e below S0 (T5.setTop (mkF m 47 #[.val (.ref a1), .val (.int 5), .val (.int p3)] [(.int p3), (.int 5), (.ref a1)])) := by
    intro t kt
    refine pre4 t ?_
    refine st5 _ ?_
    refine XS.aloadN X5.here hx rfl (hb hby d29_44) rfl rfl ?_
    refine XS.iloadN X5.here hx rfl (hb hby d29_45) rfl ?_
    refine XS.iloadN X5.here hx rfl (hb hby d29_46) rfl ?_
    exact kt
  have f9 : Old Z n0 h5 := (O0.wr W5 g1)
  obtain ⟨T10, X10, e10, st10⟩ := getS2 X5 hx hZ hown (host := "") (Or.inl (hw _ (own_w 134 rfl))) Via.refl e5 (qU.2.2.ext f9.2) (g := (mkF m 47 #[.val (.ref a1), .val (.int 5), .val (.int p3)] [(.int p3), (.int 5), (.ref a1)])) rfl (hb hby d29_47)
  have pre11 : own_Go p e below S0 (T10.setTop (mkF m 52 #[.val (.ref a1), .val (.int 5), .val (.int p3)] [(.int ((p3 >>> ((8 : Int32) &&& 31)).toInt8.toInt32)), (.int 5), (.ref a1)])) := by
    intro t kt
    refine pre8 t ?_
    refine st10 _ ?_
    refine XS.ishr X10.here hx rfl (hb hby d29_50) rfl ?_
    refine XS.i2b X10.here hx rfl (hb hby d29_51) rfl ?_
    exact kt
  obtain ⟨cl12, Ar12, q12, Sz12, Ng12, Hs12, Gt12⟩ := id V5
  have hin12 : ¬ ((5 : Int32) < 0 ∨ cl12.slots.size ≤ ((5 : Int32)).toNatClampNeg) := inb_of Sz12 ⟨by decide, by decide⟩
  obtain ⟨T12, h12, X12, e12, W12, st12⟩ := stB X10 hx hZ e10 Ar12 (j := (5 : Int32)) hin12 (g := (mkF m 52 #[.val (.ref a1), .val (.int 5), .val (.int p3)] [(.int ((p3 >>> ((8 : Int32) &&& 31)).toInt8.toInt32)), (.int 5), (.ref a1)])) rfl rfl (hb hby d29_52)
  have N12 := Fr.snoc X12 N5 g1
  have zs13 : n0 ≤ h12.size := Nat.le_trans zs6 (Keep.of_wr W12).1
  have kc14 : Keep h0 h12 [a1] := kc7.wr W12 (Or.inl (List.mem_of_getElem? (i := 0) rfl))
  have V12 : Arv Z h12 a1 k1 .byte (6 : Int32) [u0, u1, u2, u3, (.int (nar .byte ((p3 >>> ((0 : Int32) &&& 31)).toInt8.toInt32))), (.int (nar .byte ((p3 >>> ((8 : Int32) &&& 31)).toInt8.toInt32)))] (.int 0) := Arv.set Ar12 q12 Sz12 Ng12 Hs12 Gt12 (fits_nar_byte _) W12 5 rfl (Nat.le_of_ble_eq_true rfl)
  have pre15 : own_Go p e below S0 (T12.setTop (mkF m 53 #[.val (.ref a1), .val (.int 5), .val (.int p3)] [])) := by
    intro t kt
    refine pre11 t ?_
    refine st12 _ ?_
    exact kt
  obtain ⟨fs, hr, hrun, hended, hW, hsame⟩ := X12.leave (v := none) (fun _ => rfl)
  refine ⟨_, _, fin _ (pre15 _ ?_), hrun, hended, _, _, rfl, ?_, ⟨_, rfl⟩, hW, hsame.mono (by decide) (by decide)⟩
  · exact X12.returnOut hx Bd.returns (hb hby d29_53) hr
  · show Qputc_2_6 Z a1 p3 k1 u0 u1 u2 u3 u4 u5 h0 n0 _ T12.heap _
    rw [e12]
    exact ⟨rfl, N12, kc14, V12⟩

theorem ef_toB_3 (m : MethodId) (x0 : Addr) : entryFrame m #[(.ref x0), (.int 0), (.int 3)] 5 = mkF m 0 #[.val (.ref x0), .val (.int 0), .val (.int 3), .unset, .unset] [] := by first | (simp [entryFrame, mkF, argsToLocals, Value.category]; done) | rfl
def QtoB_3 (Z : State) (a1 : Addr) (kc : ClassId) (c0 : Int32) (c1 : Int32) (c2 : Int32) (h0 : Heap) (n0 : Nat) (v : Option Value) (h : Heap) (L : List Loc) : Prop := ∃ b : Addr, ∃ kb : ClassId, v = (some (.ref b)) ∧ Fr n0 L ∧ Keep h0 h [] ∧ h0.size ≤ b ∧ Arv Z h b kb .byte (6 : Int32) [(.int (nar .byte ((c0 >>> ((0 : Int32) &&& 31)).toInt8.toInt32))), (.int (nar .byte ((c0 >>> ((8 : Int32) &&& 31)).toInt8.toInt32))), (.int (nar .byte ((c1 >>> ((0 : Int32) &&& 31)).toInt8.toInt32))), (.int (nar .byte ((c1 >>> ((8 : Int32) &&& 31)).toInt8.toInt32))), (.int (nar .byte ((c2 >>> ((0 : Int32) &&& 31)).toInt8.toInt32))), (.int (nar .byte ((c2 >>> ((8 : Int32) &&& 31)).toInt8.toInt32)))] (.int 0)
set_option maxRecDepth 65536 in
set_option maxHeartbeats 40000000 in
theorem rmtoB_3 (l : Launch) (Z : State) (a0 : Array Value) (hw : ∀ d ∈ tables_1, d.before a0 Z = true) (ws : List Jvm.Cond) (a1 : Addr) (kc : ClassId) (c0 : Int32) (c1 : Int32) (c2 : Int32) (h0 : Heap) (n0 : Nat) (Z0 : n0 ≤ h0.size) (O0 : Old Z n0 h0) (qU : (own_SU Z)) (VC : Arv Z h0 a1 kc .char (3 : Int32) [(.int c0), (.int c1), (.int c2)] (.int 0)) :
    MetFree l own_m30 (head1 (Jvm.Cond.code own_m30 jdk_52_method_14_code 5 (some (.array .byte)) :: ws) (own_r 2 1 6 24)) (fun a U => a = #[(.ref a1), (.int 0), (.int 3)] ∧ Z.Warmed39 U.vm ∧ U.heap = h0) (fun _ _ _ _ _ => True) (fun _ U o U' => ∃ v L, o = .returned v ∧ QtoB_3 Z a1 kc c0 c1 c2 h0 n0 v U'.heap L ∧ FrameEnd U o U' L (own_r 2 1 6 24).cells (own_r 2 1 6 24).slots) := by
  refine MetFree.of_bodySF (plainFor_of_name pn_26) hisR ?_
  intro p e s m args below meth c s₁ Bd hml0 hP hK
  obtain ⟨rfl, hZ, hh⟩ := hP
  have hx := Bd.exec
  have hby := Bd.bytes
  have hml : c.maxLocals = 5 := hml0
  have hown0 := findClass_of_methodNamed Bd.named
  have hown : s.vm.findClass "java/lang/StringUTF16" = some m.cls := hown0
  have hnm := (name_of_methodNamed Bd.named Bd.method).1
  have X0 : Stand p l e (own_r 2 1 6 24) s m #[(.ref a1), (.int 0), (.int 3)] below meth c s₁ [] 0 0 := Stand.of_body Bd
  have e0 : s₁.heap = h0 := by rw [← hh, Bd.state]; rfl
  have N0 := Fr.nil n0
  obtain ⟨S0, hS0⟩ : ∃ z, z = s₁.setTop (entryFrame m #[(.ref a1), (.int 0), (.int 3)] 5) := ⟨_, rfl⟩
  have pre0 : own_Go p e below S0 (s₁.setTop (mkF m 0 #[.val (.ref a1), .val (.int 0), .val (.int 3), .unset, .unset] [])) := fun t k => by rw [hS0]; exact castTop (ef_toB_3 m a1) k
  have fin : ∀ t, Steps p.tables e below S0 t → Steps p.tables e below (s₁.setTop (entryFrame m #[(.ref a1), (.int 0), (.int 3)] 5)) t := fun t k => by rw [hS0] at k; exact k
  have kc0 : Keep h0 h0 [] := Keep.refl _ _
  have pre1 : own_Go p e below S0 (s₁.setTop (mkF m 1 #[.val (.ref a1), .val (.int 0), .val (.int 3), .unset, .unset] [(.int 3)])) := by
    intro t kt
    refine pre0 t ?_
    refine XS.iloadN X0.here hx rfl (hb hby d26_0) rfl ?_
    exact kt
  obtain ⟨_, _, ⟨T2, L2, k2, n2⟩, -, X2, ⟨Lc2, hQ2, l2, y2, z2⟩, st2⟩ := Jvm.LawKit.callS X0 hx (y := own_m27) hown (mvT hZ (hw _ (own_w 122 rfl))) (mvT hZ (hw _ (own_w 123 rfl))) (mvT hZ (hw _ (own_w 26 rfl))) (mvT hZ (hw _ (own_w 124 rfl))) (by decide) (backOf (W := 0) (rmnfor_3 l Z a0 hw []  h0 n0 Z0 ) hZ (hw _ (own_w 124 rfl)) (hw _ (own_w 26 rfl)) (by decide) (by decide)) (g := (mkF m 1 #[.val (.ref a1), .val (.int 0), .val (.int 3), .unset, .unset] [(.int 3)])) rfl (by rw [hml]; rfl) (argsL := [(.int 3)]) (rest := []) (lenOf pd_2 rfl) rfl (by show 2 * 0 + _ ≤ _; exact Nat.le_of_eq rfl) (hb hby d26_1) (fun _ _ => ⟨rfl, e0, (by decide : 0 + 1 ≤ _), (by decide : 0 + 6 ≤ _)⟩)
  dsimp only [Pt.U, Pt.locs, Pt.cells, Pt.slots] at X2 l2 y2 z2 st2 hQ2
  subst l2 y2 z2
  obtain ⟨b3, kb4, rfl, Nq2, K2, g5, g6⟩ := hQ2
  have N2 := Fr.app N0 Nq2
  have ne7 : a1 ≠ b3 := Nat.ne_of_lt (Nat.lt_of_lt_of_le VC.lt g5)
  have ge8 : n0 ≤ b3 := Nat.le_trans Z0 g5
  have sz9 : h0.size ≤ b3 := Nat.le_trans kc0.1 g5
  have zs10 : n0 ≤ T2.heap.size := Nat.le_trans Z0 K2.1
  have kc11 : Keep h0 T2.heap [] := kc0.trans K2 all0
  have pre12 : own_Go p e below S0 (T2.setTop (mkF m 19 #[.val (.ref a1), .val (.int 0), .val (.int 3), .val (.ref b3), .val (.int 0)] [(.int 0), (.ref a1), (.int 0), (.ref b3)])) := by
    intro t kt
    refine pre1 t ?_
    refine st2 _ ?_
    show Steps p.tables e below (T2.setTop (mkF m 4 #[.val (.ref a1), .val (.int 0), .val (.int 3), .unset, .unset] [(.ref b3)])) _
    refine XS.astoreN X2.here hx rfl (hb hby d26_4) rfl rfl (l' := #[.val (.ref a1), .val (.int 0), .val (.int 3), .val (.ref b3), .unset]) rfl ?_
    refine XS.iconst X2.here hx rfl (hb hby d26_5) ?_
    refine XS.istore X2.here hx rfl (hb hby d26_6) rfl (l' := #[.val (.ref a1), .val (.int 0), .val (.int 3), .val (.ref b3), .val (.int 0)]) rfl ?_
    refine XS.iload X2.here hx rfl (hb hby d26_8) rfl ?_
    refine XS.iloadN X2.here hx rfl (hb hby d26_10) rfl ?_
    show Steps p.tables e below (T2.setTop (mkF m 11 #[.val (.ref a1), .val (.int 0), .val (.int 3), .val (.ref b3), .val (.int 0)] [(.int 3), (.int 0)])) _
    refine XS.icmpNo X2.here hx rfl (hb hby d26_11) rfl (tlt (by decide : (0 : Int32) < (3 : Int32))).2.1 ?_
    refine XS.aloadN X2.here hx rfl (hb hby d26_14) rfl rfl ?_
    refine XS.iload X2.here hx rfl (hb hby d26_15) rfl ?_
    refine XS.aloadN X2.here hx rfl (hb hby d26_17) rfl rfl ?_
    refine XS.iloadN X2.here hx rfl (hb hby d26_18) rfl ?_
    exact kt
  have f13 : Arv Z T2.heap a1 kc .char (3 : Int32) [(.int c0), (.int c1), (.int c2)] (.int 0) := (VC.keep K2 nin0)
  obtain ⟨cl14, Ar14, -, Sz14, -, Hs14, -⟩ := id f13
  have hin14 : ¬ ((0 : Int32) < 0 ∨ cl14.slots.size ≤ ((0 : Int32)).toNatClampNeg) := inb_of Sz14 ⟨by decide, by decide⟩
  have pre15 : own_Go p e below S0 (T2.setTop (mkF m 20 #[.val (.ref a1), .val (.int 0), .val (.int 3), .val (.ref b3), .val (.int 0)] [(.int c0), (.int 0), (.ref b3)])) := by
    intro t kt
    refine pre12 t ?_
    refine X2.caload hx (j := (0 : Int32)) (v := (.int c0)) Ar14.1 (State.isArrayOf_alike hZ.alike Ar14.2.1) Ar14.2.2 hin14 (Hs14.at hin14 rfl) (g := (mkF m 19 #[.val (.ref a1), .val (.int 0), .val (.int 3), .val (.ref b3), .val (.int 0)] [(.int 0), (.ref a1), (.int 0), (.ref b3)])) rfl rfl (hb hby d26_19) _ ?_
    exact kt
  have f16 : Old Z n0 T2.heap := (O0.keep K2 all0)
  obtain ⟨_, _, ⟨T17, L17, k17, n17⟩, -, X17, ⟨Lc17, hQ17, l17, y17, z17⟩, st17⟩ := Jvm.LawKit.callS X2 hx (y := own_m29) hown (mvT hZ (hw _ (own_w 129 rfl))) (mvT hZ (hw _ (own_w 130 rfl))) (mvT hZ (hw _ (own_w 26 rfl))) (mvT hZ (hw _ (own_w 131 rfl))) (by decide) (backOf (W := 0) (rmputc_0_6 l Z a0 hw [] b3 c0 kb4 (.int 0) (.int 0) (.int 0) (.int 0) (.int 0) (.int 0) T2.heap n0 zs10 f16 qU ge8 g6) hZ (hw _ (own_w 131 rfl)) (hw _ (own_w 26 rfl)) (by decide) (by decide)) (g := (mkF m 20 #[.val (.ref a1), .val (.int 0), .val (.int 3), .val (.ref b3), .val (.int 0)] [(.int c0), (.int 0), (.ref b3)])) rfl (by rw [hml]; rfl) (argsL := [(.ref b3), (.int 0), (.int c0)]) (rest := []) (lenOf pd_3 rfl) rfl (by show 2 * 0 + _ ≤ _; exact Nat.le_of_eq rfl) (hb hby d26_20) (fun _ _ => ⟨rfl, rfl, (by decide : 1 + 0 ≤ _), (by decide : 6 + 0 ≤ _)⟩)
  dsimp only [Pt.U, Pt.locs, Pt.cells, Pt.slots] at X17 l17 y17 z17 st17 hQ17
  subst l17 y17 z17
  obtain ⟨rfl, Nq17, K17, g18⟩ := hQ17
  have N17 := Fr.app N2 Nq17
  have zs19 : n0 ≤ T17.heap.size := Nat.le_trans zs10 K17.1
  have kc20 : Keep h0 T17.heap [] := kc11.trans K17 (allS (Or.inr sz9) all0)
  have pre21 : own_Go p e below S0 (T17.setTop (mkF m 19 #[.val (.ref a1), .val (.int 1), .val (.int 3), .val (.ref b3), .val (.int 1)] [(.int 1), (.ref a1), (.int 1), (.ref b3)])) := by
    intro t kt
    refine pre15 t ?_
    refine st17 _ ?_
    show Steps p.tables e below (T17.setTop (mkF m 23 #[.val (.ref a1), .val (.int 0), .val (.int 3), .val (.ref b3), .val (.int 0)] [])) _
    refine XS.iinc X17.here hx rfl (hb hby d26_23) rfl (l' := #[.val (.ref a1), .val (.int 1), .val (.int 3), .val (.ref b3), .val (.int 0)]) rfl ?_
    refine XS.iinc X17.here hx rfl (hb hby d26_26) rfl (l' := #[.val (.ref a1), .val (.int 1), .val (.int 3), .val (.ref b3), .val (.int 1)]) rfl ?_
    refine XS.goto X17.here hx rfl (pc0 := 29) (pc' := 8) rfl (hb hby d26_29) (by decide) (by decide) ?_
    refine XS.iload X17.here hx rfl (hb hby d26_8) rfl ?_
    refine XS.iloadN X17.here hx rfl (hb hby d26_10) rfl ?_
    show Steps p.tables e below (T17.setTop (mkF m 11 #[.val (.ref a1), .val (.int 1), .val (.int 3), .val (.ref b3), .val (.int 1)] [(.int 3), (.int 1)])) _
    refine XS.icmpNo X17.here hx rfl (hb hby d26_11) rfl (tlt (by decide : (1 : Int32) < (3 : Int32))).2.1 ?_
    refine XS.aloadN X17.here hx rfl (hb hby d26_14) rfl rfl ?_
    refine XS.iload X17.here hx rfl (hb hby d26_15) rfl ?_
    refine XS.aloadN X17.here hx rfl (hb hby d26_17) rfl rfl ?_
    refine XS.iloadN X17.here hx rfl (hb hby d26_18) rfl ?_
    exact kt
  have f22 : Arv Z T17.heap a1 kc .char (3 : Int32) [(.int c0), (.int c1), (.int c2)] (.int 0) := (f13.keep K17 (ninS ne7 nin0))
  obtain ⟨cl23, Ar23, -, Sz23, -, Hs23, -⟩ := id f22
  have hin23 : ¬ ((1 : Int32) < 0 ∨ cl23.slots.size ≤ ((1 : Int32)).toNatClampNeg) := inb_of Sz23 ⟨by decide, by decide⟩
  have pre24 : own_Go p e below S0 (T17.setTop (mkF m 20 #[.val (.ref a1), .val (.int 1), .val (.int 3), .val (.ref b3), .val (.int 1)] [(.int c1), (.int 1), (.ref b3)])) := by
    intro t kt
    refine pre21 t ?_
    refine X17.caload hx (j := (1 : Int32)) (v := (.int c1)) Ar23.1 (State.isArrayOf_alike hZ.alike Ar23.2.1) Ar23.2.2 hin23 (Hs23.at hin23 rfl) (g := (mkF m 19 #[.val (.ref a1), .val (.int 1), .val (.int 3), .val (.ref b3), .val (.int 1)] [(.int 1), (.ref a1), (.int 1), (.ref b3)])) rfl rfl (hb hby d26_19) _ ?_
    exact kt
  have f25 : Old Z n0 T17.heap := (f16.keep K17 (allS ge8 all0))
  obtain ⟨_, _, ⟨T26, L26, k26, n26⟩, -, X26, ⟨Lc26, hQ26, l26, y26, z26⟩, st26⟩ := Jvm.LawKit.callS X17 hx (y := own_m29) hown (mvT hZ (hw _ (own_w 129 rfl))) (mvT hZ (hw _ (own_w 130 rfl))) (mvT hZ (hw _ (own_w 26 rfl))) (mvT hZ (hw _ (own_w 131 rfl))) (by decide) (backOf (W := 0) (rmputc_1_6 l Z a0 hw [] b3 c1 kb4 (.int (nar .byte ((c0 >>> ((0 : Int32) &&& 31)).toInt8.toInt32))) (.int (nar .byte ((c0 >>> ((8 : Int32) &&& 31)).toInt8.toInt32))) (.int 0) (.int 0) (.int 0) (.int 0) T17.heap n0 zs19 f25 qU ge8 g18) hZ (hw _ (own_w 131 rfl)) (hw _ (own_w 26 rfl)) (by decide) (by decide)) (g := (mkF m 20 #[.val (.ref a1), .val (.int 1), .val (.int 3), .val (.ref b3), .val (.int 1)] [(.int c1), (.int 1), (.ref b3)])) rfl (by rw [hml]; rfl) (argsL := [(.ref b3), (.int 1), (.int c1)]) (rest := []) (lenOf pd_3 rfl) rfl (by show 2 * 0 + _ ≤ _; exact Nat.le_of_eq rfl) (hb hby d26_20) (fun _ _ => ⟨rfl, rfl, (by decide : 1 + 0 ≤ _), (by decide : 6 + 0 ≤ _)⟩)
  dsimp only [Pt.U, Pt.locs, Pt.cells, Pt.slots] at X26 l26 y26 z26 st26 hQ26
  subst l26 y26 z26
  obtain ⟨rfl, Nq26, K26, g27⟩ := hQ26
  have N26 := Fr.app N17 Nq26
  have zs28 : n0 ≤ T26.heap.size := Nat.le_trans zs19 K26.1
  have kc29 : Keep h0 T26.heap [] := kc20.trans K26 (allS (Or.inr sz9) all0)
  have pre30 : own_Go p e below S0 (T26.setTop (mkF m 19 #[.val (.ref a1), .val (.int 2), .val (.int 3), .val (.ref b3), .val (.int 2)] [(.int 2), (.ref a1), (.int 2), (.ref b3)])) := by
    intro t kt
    refine pre24 t ?_
    refine st26 _ ?_
    show Steps p.tables e below (T26.setTop (mkF m 23 #[.val (.ref a1), .val (.int 1), .val (.int 3), .val (.ref b3), .val (.int 1)] [])) _
    refine XS.iinc X26.here hx rfl (hb hby d26_23) rfl (l' := #[.val (.ref a1), .val (.int 2), .val (.int 3), .val (.ref b3), .val (.int 1)]) rfl ?_
    refine XS.iinc X26.here hx rfl (hb hby d26_26) rfl (l' := #[.val (.ref a1), .val (.int 2), .val (.int 3), .val (.ref b3), .val (.int 2)]) rfl ?_
    refine XS.goto X26.here hx rfl (pc0 := 29) (pc' := 8) rfl (hb hby d26_29) (by decide) (by decide) ?_
    refine XS.iload X26.here hx rfl (hb hby d26_8) rfl ?_
    refine XS.iloadN X26.here hx rfl (hb hby d26_10) rfl ?_
    show Steps p.tables e below (T26.setTop (mkF m 11 #[.val (.ref a1), .val (.int 2), .val (.int 3), .val (.ref b3), .val (.int 2)] [(.int 3), (.int 2)])) _
    refine XS.icmpNo X26.here hx rfl (hb hby d26_11) rfl (tlt (by decide : (2 : Int32) < (3 : Int32))).2.1 ?_
    refine XS.aloadN X26.here hx rfl (hb hby d26_14) rfl rfl ?_
    refine XS.iload X26.here hx rfl (hb hby d26_15) rfl ?_
    refine XS.aloadN X26.here hx rfl (hb hby d26_17) rfl rfl ?_
    refine XS.iloadN X26.here hx rfl (hb hby d26_18) rfl ?_
    exact kt
  have f31 : Arv Z T26.heap a1 kc .char (3 : Int32) [(.int c0), (.int c1), (.int c2)] (.int 0) := (f22.keep K26 (ninS ne7 nin0))
  obtain ⟨cl32, Ar32, -, Sz32, -, Hs32, -⟩ := id f31
  have hin32 : ¬ ((2 : Int32) < 0 ∨ cl32.slots.size ≤ ((2 : Int32)).toNatClampNeg) := inb_of Sz32 ⟨by decide, by decide⟩
  have pre33 : own_Go p e below S0 (T26.setTop (mkF m 20 #[.val (.ref a1), .val (.int 2), .val (.int 3), .val (.ref b3), .val (.int 2)] [(.int c2), (.int 2), (.ref b3)])) := by
    intro t kt
    refine pre30 t ?_
    refine X26.caload hx (j := (2 : Int32)) (v := (.int c2)) Ar32.1 (State.isArrayOf_alike hZ.alike Ar32.2.1) Ar32.2.2 hin32 (Hs32.at hin32 rfl) (g := (mkF m 19 #[.val (.ref a1), .val (.int 2), .val (.int 3), .val (.ref b3), .val (.int 2)] [(.int 2), (.ref a1), (.int 2), (.ref b3)])) rfl rfl (hb hby d26_19) _ ?_
    exact kt
  have f34 : Old Z n0 T26.heap := (f25.keep K26 (allS ge8 all0))
  obtain ⟨_, _, ⟨T35, L35, k35, n35⟩, -, X35, ⟨Lc35, hQ35, l35, y35, z35⟩, st35⟩ := Jvm.LawKit.callS X26 hx (y := own_m29) hown (mvT hZ (hw _ (own_w 129 rfl))) (mvT hZ (hw _ (own_w 130 rfl))) (mvT hZ (hw _ (own_w 26 rfl))) (mvT hZ (hw _ (own_w 131 rfl))) (by decide) (backOf (W := 0) (rmputc_2_6 l Z a0 hw [] b3 c2 kb4 (.int (nar .byte ((c0 >>> ((0 : Int32) &&& 31)).toInt8.toInt32))) (.int (nar .byte ((c0 >>> ((8 : Int32) &&& 31)).toInt8.toInt32))) (.int (nar .byte ((c1 >>> ((0 : Int32) &&& 31)).toInt8.toInt32))) (.int (nar .byte ((c1 >>> ((8 : Int32) &&& 31)).toInt8.toInt32))) (.int 0) (.int 0) T26.heap n0 zs28 f34 qU ge8 g27) hZ (hw _ (own_w 131 rfl)) (hw _ (own_w 26 rfl)) (by decide) (by decide)) (g := (mkF m 20 #[.val (.ref a1), .val (.int 2), .val (.int 3), .val (.ref b3), .val (.int 2)] [(.int c2), (.int 2), (.ref b3)])) rfl (by rw [hml]; rfl) (argsL := [(.ref b3), (.int 2), (.int c2)]) (rest := []) (lenOf pd_3 rfl) rfl (by show 2 * 0 + _ ≤ _; exact Nat.le_of_eq rfl) (hb hby d26_20) (fun _ _ => ⟨rfl, rfl, (by decide : 1 + 0 ≤ _), (by decide : 6 + 0 ≤ _)⟩)
  dsimp only [Pt.U, Pt.locs, Pt.cells, Pt.slots] at X35 l35 y35 z35 st35 hQ35
  subst l35 y35 z35
  obtain ⟨rfl, Nq35, K35, g36⟩ := hQ35
  have N35 := Fr.app N26 Nq35
  have zs37 : n0 ≤ T35.heap.size := Nat.le_trans zs28 K35.1
  have kc38 : Keep h0 T35.heap [] := kc29.trans K35 (allS (Or.inr sz9) all0)
  have pre39 : own_Go p e below S0 (T35.setTop (mkF m 33 #[.val (.ref a1), .val (.int 3), .val (.int 3), .val (.ref b3), .val (.int 3)] [(.ref b3)])) := by
    intro t kt
    refine pre33 t ?_
    refine st35 _ ?_
    show Steps p.tables e below (T35.setTop (mkF m 23 #[.val (.ref a1), .val (.int 2), .val (.int 3), .val (.ref b3), .val (.int 2)] [])) _
    refine XS.iinc X35.here hx rfl (hb hby d26_23) rfl (l' := #[.val (.ref a1), .val (.int 3), .val (.int 3), .val (.ref b3), .val (.int 2)]) rfl ?_
    refine XS.iinc X35.here hx rfl (hb hby d26_26) rfl (l' := #[.val (.ref a1), .val (.int 3), .val (.int 3), .val (.ref b3), .val (.int 3)]) rfl ?_
    refine XS.goto X35.here hx rfl (pc0 := 29) (pc' := 8) rfl (hb hby d26_29) (by decide) (by decide) ?_
    refine XS.iload X35.here hx rfl (hb hby d26_8) rfl ?_
    refine XS.iloadN X35.here hx rfl (hb hby d26_10) rfl ?_
    show Steps p.tables e below (T35.setTop (mkF m 11 #[.val (.ref a1), .val (.int 3), .val (.int 3), .val (.ref b3), .val (.int 3)] [(.int 3), (.int 3)])) _
    refine XS.icmpYes X35.here hx rfl (pc0 := 11) (pc' := 32) rfl (hb hby d26_11) rfl (flt (by decide : ¬ ((3 : Int32) < (3 : Int32)))).2.1 (by decide) (by decide) ?_
    refine XS.aloadN X35.here hx rfl (hb hby d26_32) rfl rfl ?_
    exact kt
  obtain ⟨fs, hr, hrun, hended, hW, hsame⟩ := X35.leave (v := some (.ref b3)) (fun h => by rw [Bd.returns] at h; cases h)
  refine ⟨_, _, fin _ (pre39 _ ?_), hrun, hended, _, _, rfl, ?_, ⟨_, rfl⟩, hW, hsame.mono (by decide) (by decide)⟩
  · jvm_step X35.here [X35.here.top, hx, (hb hby d26_33), X35.method', Bd.returns, Value.isRef, FieldType.isReference]
    first | (intro acts; rw [hr _ acts rfl rfl rfl]) | rw [hr _ _ rfl rfl rfl]
    exact Steps.refl _
  · show QtoB_3 Z a1 kc c0 c1 c2 h0 n0 _ T35.heap _
    exact ⟨b3, kb4, rfl, N35, kc38, sz9, g36⟩

theorem ef_cmp3_3 (m : MethodId) (x0 : Addr) : entryFrame m #[(.ref x0), (.int 0), (.int 3)] 6 = mkF m 0 #[.val (.ref x0), .val (.int 0), .val (.int 3), .unset, .unset, .unset] [] := by first | (simp [entryFrame, mkF, argsToLocals, Value.category]; done) | rfl
def Qcmp3_3 (Z : State) (a1 : Addr) (kc : ClassId) (c0 : Int32) (c1 : Int32) (c2 : Int32) (h0 : Heap) (n0 : Nat) (v : Option Value) (h : Heap) (L : List Loc) : Prop := ∃ b : Addr, ∃ kb : ClassId, v = (some (.ref b)) ∧ Fr n0 L ∧ Keep h0 h [] ∧ h0.size ≤ b ∧ ((own_Lat [c0, c1, c2] ∧ Arv Z h b kb .byte (3 : Int32) [(.int (nar .byte (c0.toInt8.toInt32))), (.int (nar .byte (c1.toInt8.toInt32))), (.int (nar .byte (c2.toInt8.toInt32)))] (.int 0)) ∨ (own_Chr [c0, c1, c2] ∧ Arv Z h b kb .byte (6 : Int32) [(.int (nar .byte ((c0 >>> ((0 : Int32) &&& 31)).toInt8.toInt32))), (.int (nar .byte ((c0 >>> ((8 : Int32) &&& 31)).toInt8.toInt32))), (.int (nar .byte ((c1 >>> ((0 : Int32) &&& 31)).toInt8.toInt32))), (.int (nar .byte ((c1 >>> ((8 : Int32) &&& 31)).toInt8.toInt32))), (.int (nar .byte ((c2 >>> ((0 : Int32) &&& 31)).toInt8.toInt32))), (.int (nar .byte ((c2 >>> ((8 : Int32) &&& 31)).toInt8.toInt32)))] (.int 0)))
set_option maxRecDepth 65536 in
set_option maxHeartbeats 40000000 in
theorem rmcmp3_3 (l : Launch) (Z : State) (a0 : Array Value) (hw : ∀ d ∈ tables_1, d.before a0 Z = true) (ws : List Jvm.Cond) (a1 : Addr) (kc : ClassId) (c0 : Int32) (c1 : Int32) (c2 : Int32) (h0 : Heap) (n0 : Nat) (Z0 : n0 ≤ h0.size) (O0 : Old Z n0 h0) (qU : (own_SU Z)) (VC : Arv Z h0 a1 kc .char (3 : Int32) [(.int c0), (.int c1), (.int c2)] (.int 0)) :
    MetFree l own_m23 (head1 (Jvm.Cond.code own_m23 jdk_52_method_16_code 6 (some (.array .byte)) :: ws) (own_r 3 2 9 40)) (fun a U => a = #[(.ref a1), (.int 0), (.int 3)] ∧ Z.Warmed39 U.vm ∧ U.heap = h0) (fun _ _ _ _ _ => True) (fun _ U o U' => ∃ v L, o = .returned v ∧ Qcmp3_3 Z a1 kc c0 c1 c2 h0 n0 v U'.heap L ∧ FrameEnd U o U' L (own_r 3 2 9 40).cells (own_r 3 2 9 40).slots) := by
  refine MetFree.of_bodySF (plainFor_of_name pn_5) hisR ?_
  intro p e s m args below meth c s₁ Bd hml0 hP hK
  obtain ⟨rfl, hZ, hh⟩ := hP
  have hx := Bd.exec
  have hby := Bd.bytes
  have hml : c.maxLocals = 6 := hml0
  have hown0 := findClass_of_methodNamed Bd.named
  have hown : s.vm.findClass "java/lang/StringUTF16" = some m.cls := hown0
  have hnm := (name_of_methodNamed Bd.named Bd.method).1
  have X0 : Stand p l e (own_r 3 2 9 40) s m #[(.ref a1), (.int 0), (.int 3)] below meth c s₁ [] 0 0 := Stand.of_body Bd
  have e0 : s₁.heap = h0 := by rw [← hh, Bd.state]; rfl
  have N0 := Fr.nil n0
  obtain ⟨S0, hS0⟩ : ∃ z, z = s₁.setTop (entryFrame m #[(.ref a1), (.int 0), (.int 3)] 6) := ⟨_, rfl⟩
  have pre0 : own_Go p e below S0 (s₁.setTop (mkF m 0 #[.val (.ref a1), .val (.int 0), .val (.int 3), .unset, .unset, .unset] [])) := fun t k => by rw [hS0]; exact castTop (ef_cmp3_3 m a1) k
  have fin : ∀ t, Steps p.tables e below S0 t → Steps p.tables e below (s₁.setTop (entryFrame m #[(.ref a1), (.int 0), (.int 3)] 6)) t := fun t k => by rw [hS0] at k; exact k
  have kc0 : Keep h0 h0 [] := Keep.refl _ _
  have pre1 : own_Go p e below S0 (s₁.setTop (mkF m 1 #[.val (.ref a1), .val (.int 0), .val (.int 3), .unset, .unset, .unset] [(.int 3)])) := by
    intro t kt
    refine pre0 t ?_
    refine XS.iloadN X0.here hx rfl (hb hby d5_0) rfl ?_
    exact kt
  obtain ⟨T2, h2, k2, X2, e2, E2, A2, st2⟩ := newP X0 hx hZ (hw _ (own_w 28 rfl)) e0 (g := (mkF m 1 #[.val (.ref a1), .val (.int 0), .val (.int 3), .unset, .unset, .unset] [(.int 3)])) rfl (hb hby d5_1) rfl (by decide) (cap := 3) (by decide) (by decide) (by decide) (by decide)
  obtain ⟨b2, g2⟩ : ∃ z, z = h0.size := ⟨_, rfl⟩
  rw [← g2] at A2 st2
  have ne3 : a1 ≠ b2 := Nat.ne_of_lt (Nat.lt_of_lt_of_le VC.lt (Nat.le_of_eq g2.symm))
  have ge4 : n0 ≤ b2 := Nat.le_trans Z0 (Nat.le_of_eq g2.symm)
  have sz5 : h0.size ≤ b2 := Nat.le_trans kc0.1 (Nat.le_of_eq g2.symm)
  have zs6 : n0 ≤ h2.size := Nat.le_trans Z0 E2.1
  have kc7 : Keep h0 h2 [] := kc0.ext E2
  have V2 : Arv Z h2 b2 k2 .byte (3 : Int32) [(.int 0), (.int 0), (.int 0)] (.int 0) := (Arv.new A2 (by decide)).pad (pad_rep [] (.int 0) 3)
  have pre8 : own_Go p e below S0 (T2.setTop (mkF m 9 #[.val (.ref a1), .val (.int 0), .val (.int 3), .val (.ref b2), .unset, .unset] [(.int 3), (.int 0), (.ref b2), (.int 0), (.ref a1)])) := by
    intro t kt
    refine pre1 t ?_
    refine st2 _ ?_
    refine XS.astoreN X2.here hx rfl (hb hby d5_3) rfl rfl (l' := #[.val (.ref a1), .val (.int 0), .val (.int 3), .val (.ref b2), .unset, .unset]) rfl ?_
    refine XS.aloadN X2.here hx rfl (hb hby d5_4) rfl rfl ?_
    refine XS.iloadN X2.here hx rfl (hb hby d5_5) rfl ?_
    refine XS.aloadN X2.here hx rfl (hb hby d5_6) rfl rfl ?_
    refine XS.iconst X2.here hx rfl (hb hby d5_7) ?_
    show Steps p.tables e below (T2.setTop (mkF m 8 #[.val (.ref a1), .val (.int 0), .val (.int 3), .val (.ref b2), .unset, .unset] [(.int 0), (.ref b2), (.int 0), (.ref a1)])) _
    refine XS.iloadN X2.here hx rfl (hb hby d5_8) rfl ?_
    exact kt
  have f9 : Arv Z h2 a1 kc .char (3 : Int32) [(.int c0), (.int c1), (.int c2)] (.int 0) := (VC.ext E2)
  obtain ⟨_, _, ⟨T10, L10, k10, n10⟩, -, X10, ⟨Lc10, hQ10, l10, y10, z10⟩, st10⟩ := Jvm.LawKit.callS X2 hx (y := own_m24) hown (mvT hZ (hw _ (own_w 29 rfl))) (mvT hZ (hw _ (own_w 30 rfl))) (mvT hZ (hw _ (own_w 26 rfl))) (mvT hZ (hw _ (own_w 31 rfl))) (by decide) (backOf (W := 0) (rmcmp5_3 l Z a0 hw [] a1 b2 kc k2 c0 c1 c2 h2 n0 zs6 f9 ge4 V2 ne3) hZ (hw _ (own_w 31 rfl)) (hw _ (own_w 26 rfl)) (by decide) (by decide)) (g := (mkF m 9 #[.val (.ref a1), .val (.int 0), .val (.int 3), .val (.ref b2), .unset, .unset] [(.int 3), (.int 0), (.ref b2), (.int 0), (.ref a1)])) rfl (by rw [hml]; rfl) (argsL := [(.ref a1), (.int 0), (.ref b2), (.int 0), (.int 3)]) (rest := []) (lenOf pd_4 rfl) rfl (by show 2 * 0 + _ ≤ _; exact Nat.le_of_eq rfl) (hb hby d5_9) (fun _ _ => ⟨rfl, e2, (by decide : 1 + 0 ≤ _), (by decide : 3 + 0 ≤ _)⟩)
  dsimp only [Pt.U, Pt.locs, Pt.cells, Pt.slots] at X10 l10 y10 z10 st10 hQ10
  subst l10 y10 z10
  obtain ⟨r11, rfl, Nq10, K10, g12⟩ := hQ10
  have N10 := Fr.app N0 Nq10
  have zs13 : n0 ≤ T10.heap.size := Nat.le_trans zs6 K10.1
  have kc14 : Keep h0 T10.heap [] := kc7.trans K10 (allS (Or.inr sz5) all0)
  have pre15 : own_Go p e below S0 (T10.setTop (mkF m 12 #[.val (.ref a1), .val (.int 0), .val (.int 3), .val (.ref b2), .unset, .unset] [(.int r11)])) := by
    intro t kt
    refine pre8 t ?_
    refine st10 _ ?_
    show Steps p.tables e below (T10.setTop (mkF m 12 #[.val (.ref a1), .val (.int 0), .val (.int 3), .val (.ref b2), .unset, .unset] [(.int r11)])) _
    exact kt
  obtain ⟨hr, hl, hv⟩ | ⟨hr, hg⟩ | ⟨hr, hg⟩ | ⟨hr, hg⟩ := g12
  · have pre16 : own_Go p e below S0 (T10.setTop (mkF m 12 #[.val (.ref a1), .val (.int 0), .val (.int 3), .val (.ref b2), .unset, .unset] [(.int 3)])) := by
      intro t kt
      refine pre15 t ?_
      rw [hr]
      exact kt
    have pre17 : own_Go p e below S0 (T10.setTop (mkF m 58 #[.val (.ref a1), .val (.int 0), .val (.int 3), .val (.ref b2), .val (.int 3), .unset] [(.ref b2)])) := by
      intro t kt
      refine pre16 t ?_
      refine XS.istore X10.here hx rfl (hb hby d5_12) rfl (l' := #[.val (.ref a1), .val (.int 0), .val (.int 3), .val (.ref b2), .val (.int 3), .unset]) rfl ?_
      refine XS.iload X10.here hx rfl (hb hby d5_14) rfl ?_
      refine XS.iloadN X10.here hx rfl (hb hby d5_16) rfl ?_
      refine XS.icmpYes X10.here hx rfl (pc0 := 17) (pc' := 57) rfl (hb hby d5_17) rfl (teq (by decide : (3 : Int32) = (3 : Int32))).1 (by decide) (by decide) ?_
      refine XS.aloadN X10.here hx rfl (hb hby d5_57) rfl rfl ?_
      exact kt
    obtain ⟨fs, hr, hrun, hended, hW, hsame⟩ := X10.leave (v := some (.ref b2)) (fun h => by rw [Bd.returns] at h; cases h)
    refine ⟨_, _, fin _ (pre17 _ ?_), hrun, hended, _, _, rfl, ?_, ⟨_, rfl⟩, hW, hsame.mono (by decide) (by decide)⟩
    · jvm_step X10.here [X10.here.top, hx, (hb hby d5_58), X10.method', Bd.returns, Value.isRef, FieldType.isReference]
      first | (intro acts; rw [hr _ acts rfl rfl rfl]) | rw [hr _ _ rfl rfl rfl]
      exact Steps.refl _
    · show Qcmp3_3 Z a1 kc c0 c1 c2 h0 n0 _ T10.heap _
      exact ⟨b2, k2, rfl, N10, kc14, sz5, (Or.inl ⟨hl, hv⟩)⟩
  · have pre18 : own_Go p e below S0 (T10.setTop (mkF m 12 #[.val (.ref a1), .val (.int 0), .val (.int 3), .val (.ref b2), .unset, .unset] [(.int 0)])) := by
      intro t kt
      refine pre15 t ?_
      rw [hr]
      exact kt
    have pre19 : own_Go p e below S0 (T10.setTop (mkF m 23 #[.val (.ref a1), .val (.int 0), .val (.int 3), .val (.ref b2), .val (.int 0), .unset] [(.int 3), (.int 0), (.ref a1)])) := by
      intro t kt
      refine pre18 t ?_
      refine XS.istore X10.here hx rfl (hb hby d5_12) rfl (l' := #[.val (.ref a1), .val (.int 0), .val (.int 3), .val (.ref b2), .val (.int 0), .unset]) rfl ?_
      refine XS.iload X10.here hx rfl (hb hby d5_14) rfl ?_
      refine XS.iloadN X10.here hx rfl (hb hby d5_16) rfl ?_
      refine XS.icmpNo X10.here hx rfl (hb hby d5_17) rfl (feq (by decide : ¬ ((0 : Int32) = (3 : Int32)))).1 ?_
      refine XS.aloadN X10.here hx rfl (hb hby d5_20) rfl rfl ?_
      refine XS.iloadN X10.here hx rfl (hb hby d5_21) rfl ?_
      show Steps p.tables e below (T10.setTop (mkF m 22 #[.val (.ref a1), .val (.int 0), .val (.int 3), .val (.ref b2), .val (.int 0), .unset] [(.int 0), (.ref a1)])) _
      refine XS.iloadN X10.here hx rfl (hb hby d5_22) rfl ?_
      exact kt
    have f20 : Old Z n0 T10.heap := ((O0.ext E2).keep K10 (allS ge4 all0))
    have f21 : Arv Z T10.heap a1 kc .char (3 : Int32) [(.int c0), (.int c1), (.int c2)] (.int 0) := (f9.keep K10 (ninS ne3 nin0))
    obtain ⟨_, _, ⟨T22, L22, k22, n22⟩, -, X22, ⟨Lc22, hQ22, l22, y22, z22⟩, st22⟩ := Jvm.LawKit.callS X10 hx (y := own_m30) hown (mvT hZ (hw _ (own_w 119 rfl))) (mvT hZ (hw _ (own_w 120 rfl))) (mvT hZ (hw _ (own_w 26 rfl))) (mvT hZ (hw _ (own_w 121 rfl))) (by decide) (backOf (W := 0) (rmtoB_3 l Z a0 hw [] a1 kc c0 c1 c2 T10.heap n0 zs13 f20 qU f21) hZ (hw _ (own_w 121 rfl)) (hw _ (own_w 26 rfl)) (by decide) (by decide)) (g := (mkF m 23 #[.val (.ref a1), .val (.int 0), .val (.int 3), .val (.ref b2), .val (.int 0), .unset] [(.int 3), (.int 0), (.ref a1)])) rfl (by rw [hml]; rfl) (argsL := [(.ref a1), (.int 0), (.int 3)]) (rest := []) (lenOf pd_5 rfl) rfl (by show 2 * 0 + _ ≤ _; exact Nat.le_of_eq rfl) (hb hby d5_23) (fun _ _ => ⟨rfl, rfl, (by decide : 1 + 1 ≤ _), (by decide : 3 + 6 ≤ _)⟩)
    dsimp only [Pt.U, Pt.locs, Pt.cells, Pt.slots] at X22 l22 y22 z22 st22 hQ22
    subst l22 y22 z22
    obtain ⟨b23, kb24, rfl, Nq22, K22, g25, g26⟩ := hQ22
    have N22 := Fr.app N10 Nq22
    have ne27 : a1 ≠ b23 := Nat.ne_of_lt (Nat.lt_of_lt_of_le f21.lt g25)
    have ge28 : n0 ≤ b23 := Nat.le_trans zs13 g25
    have sz29 : h0.size ≤ b23 := Nat.le_trans kc14.1 g25
    have zs30 : n0 ≤ T22.heap.size := Nat.le_trans zs13 K22.1
    have kc31 : Keep h0 T22.heap [] := kc14.trans K22 all0
    have pre32 : own_Go p e below S0 (T22.setTop (mkF m 32 #[.val (.ref a1), .val (.int 0), .val (.int 3), .val (.ref b2), .val (.int 0), .val (.ref b23)] [(.int 0), (.ref b23)])) := by
      intro t kt
      refine pre19 t ?_
      refine st22 _ ?_
      show Steps p.tables e below (T22.setTop (mkF m 26 #[.val (.ref a1), .val (.int 0), .val (.int 3), .val (.ref b2), .val (.int 0), .unset] [(.ref b23)])) _
      refine XS.astore X22.here hx rfl (hb hby d5_26) rfl rfl (l' := #[.val (.ref a1), .val (.int 0), .val (.int 3), .val (.ref b2), .val (.int 0), .val (.ref b23)]) rfl ?_
      refine XS.aload X22.here hx rfl (hb hby d5_28) rfl rfl ?_
      refine XS.iload X22.here hx rfl (hb hby d5_30) rfl ?_
      exact kt
    have f33 : Old Z n0 T22.heap := (f20.keep K22 all0)
    obtain ⟨_, _, ⟨T34, L34, k34, n34⟩, -, X34, ⟨Lc34, hQ34, l34, y34, z34⟩, st34⟩ := Jvm.LawKit.callS X22 hx (y := own_m25) hown (mvT hZ (hw _ (own_w 135 rfl))) (mvT hZ (hw _ (own_w 136 rfl))) (mvT hZ (hw _ (own_w 26 rfl))) (mvT hZ (hw _ (own_w 137 rfl))) (by decide) (backOf (W := 0) (rmgetc l Z a0 hw [] b23 (0 : Int32) kb24 (6 : Int32) [(.int (nar .byte ((c0 >>> ((0 : Int32) &&& 31)).toInt8.toInt32))), (.int (nar .byte ((c0 >>> ((8 : Int32) &&& 31)).toInt8.toInt32))), (.int (nar .byte ((c1 >>> ((0 : Int32) &&& 31)).toInt8.toInt32))), (.int (nar .byte ((c1 >>> ((8 : Int32) &&& 31)).toInt8.toInt32))), (.int (nar .byte ((c2 >>> ((0 : Int32) &&& 31)).toInt8.toInt32))), (.int (nar .byte ((c2 >>> ((8 : Int32) &&& 31)).toInt8.toInt32)))] (.int 0) (nar .byte ((c0 >>> ((0 : Int32) &&& 31)).toInt8.toInt32)) (nar .byte ((c0 >>> ((8 : Int32) &&& 31)).toInt8.toInt32)) 0 1 T22.heap n0 zs30 f33 qU g26 (by decide +kernel) (by decide +kernel) (by decide +kernel) rfl (by decide +kernel) (by decide +kernel) (by decide +kernel) rfl) hZ (hw _ (own_w 137 rfl)) (hw _ (own_w 26 rfl)) (by decide) (by decide)) (g := (mkF m 32 #[.val (.ref a1), .val (.int 0), .val (.int 3), .val (.ref b2), .val (.int 0), .val (.ref b23)] [(.int 0), (.ref b23)])) rfl (by rw [hml]; rfl) (argsL := [(.ref b23), (.int 0)]) (rest := []) (lenOf pd_6 rfl) rfl (by show 2 * 0 + _ ≤ _; exact Nat.le_of_eq rfl) (hb hby d5_32) (fun _ _ => ⟨rfl, rfl, (by decide : 2 + 0 ≤ _), (by decide : 9 + 0 ≤ _)⟩)
    dsimp only [Pt.U, Pt.locs, Pt.cells, Pt.slots] at X34 l34 y34 z34 st34 hQ34
    subst l34 y34 z34
    obtain ⟨rfl, Nq34, eq34⟩ := hQ34
    have N34 := Fr.app N22 Nq34
    have pre35 : own_Go p e below S0 (T34.setTop (mkF m 35 #[.val (.ref a1), .val (.int 0), .val (.int 3), .val (.ref b2), .val (.int 0), .val (.ref b23)] [(.int (own_gc (nar .byte ((c0 >>> ((0 : Int32) &&& 31)).toInt8.toInt32)) (nar .byte ((c0 >>> ((8 : Int32) &&& 31)).toInt8.toInt32))))])) := by
      intro t kt
      refine pre32 t ?_
      refine st34 _ ?_
      show Steps p.tables e below (T34.setTop (mkF m 35 #[.val (.ref a1), .val (.int 0), .val (.int 3), .val (.ref b2), .val (.int 0), .val (.ref b23)] [(.int (own_gc (nar .byte ((c0 >>> ((0 : Int32) &&& 31)).toInt8.toInt32)) (nar .byte ((c0 >>> ((8 : Int32) &&& 31)).toInt8.toInt32))))])) _
      exact kt
    have pre36 : own_Go p e below S0 (T34.setTop (mkF m 35 #[.val (.ref a1), .val (.int 0), .val (.int 3), .val (.ref b2), .val (.int 0), .val (.ref b23)] [(.int c0)])) := by
      intro t kt
      refine pre35 t ?_
      rw [own_utfget c0 (own_fitAt VC 0 (by decide) rfl)]
      exact kt
    have pre37 : own_Go p e below S0 (T34.setTop (mkF m 56 #[.val (.ref a1), .val (.int 0), .val (.int 3), .val (.ref b2), .val (.int 0), .val (.ref b23)] [(.ref b23)])) := by
      intro t kt
      refine pre36 t ?_
      refine XS.sipush X34.here hx rfl (hb hby d5_35) ?_
      refine XS.icmpYes X34.here hx rfl (pc0 := 38) (pc' := 54) rfl (hb hby d5_38) rfl (tlt hg).2.2.1 (by decide) (by decide) ?_
      refine XS.aload X34.here hx rfl (hb hby d5_54) rfl rfl ?_
      exact kt
    obtain ⟨fs, hr, hrun, hended, hW, hsame⟩ := X34.leave (v := some (.ref b23)) (fun h => by rw [Bd.returns] at h; cases h)
    refine ⟨_, _, fin _ (pre37 _ ?_), hrun, hended, _, _, rfl, ?_, ⟨_, rfl⟩, hW, hsame.mono (by decide) (by decide)⟩
    · jvm_step X34.here [X34.here.top, hx, (hb hby d5_56), X34.method', Bd.returns, Value.isRef, FieldType.isReference]
      first | (intro acts; rw [hr _ acts rfl rfl rfl]) | rw [hr _ _ rfl rfl rfl]
      exact Steps.refl _
    · show Qcmp3_3 Z a1 kc c0 c1 c2 h0 n0 _ T34.heap _
      rw [eq34]
      exact ⟨b23, kb24, rfl, N34, kc31, sz29, (Or.inr ⟨⟨own_fitAt VC 0 (by decide) rfl, ⟨own_fitAt VC 1 (by decide) rfl, ⟨own_fitAt VC 2 (by decide) rfl, trivial⟩⟩⟩, g26⟩)⟩
  · have pre38 : own_Go p e below S0 (T10.setTop (mkF m 12 #[.val (.ref a1), .val (.int 0), .val (.int 3), .val (.ref b2), .unset, .unset] [(.int 1)])) := by
      intro t kt
      refine pre15 t ?_
      rw [hr]
      exact kt
    have pre39 : own_Go p e below S0 (T10.setTop (mkF m 23 #[.val (.ref a1), .val (.int 0), .val (.int 3), .val (.ref b2), .val (.int 1), .unset] [(.int 3), (.int 0), (.ref a1)])) := by
      intro t kt
      refine pre38 t ?_
      refine XS.istore X10.here hx rfl (hb hby d5_12) rfl (l' := #[.val (.ref a1), .val (.int 0), .val (.int 3), .val (.ref b2), .val (.int 1), .unset]) rfl ?_
      refine XS.iload X10.here hx rfl (hb hby d5_14) rfl ?_
      refine XS.iloadN X10.here hx rfl (hb hby d5_16) rfl ?_
      refine XS.icmpNo X10.here hx rfl (hb hby d5_17) rfl (feq (by decide : ¬ ((1 : Int32) = (3 : Int32)))).1 ?_
      refine XS.aloadN X10.here hx rfl (hb hby d5_20) rfl rfl ?_
      refine XS.iloadN X10.here hx rfl (hb hby d5_21) rfl ?_
      show Steps p.tables e below (T10.setTop (mkF m 22 #[.val (.ref a1), .val (.int 0), .val (.int 3), .val (.ref b2), .val (.int 1), .unset] [(.int 0), (.ref a1)])) _
      refine XS.iloadN X10.here hx rfl (hb hby d5_22) rfl ?_
      exact kt
    have f40 : Old Z n0 T10.heap := ((O0.ext E2).keep K10 (allS ge4 all0))
    have f41 : Arv Z T10.heap a1 kc .char (3 : Int32) [(.int c0), (.int c1), (.int c2)] (.int 0) := (f9.keep K10 (ninS ne3 nin0))
    obtain ⟨_, _, ⟨T42, L42, k42, n42⟩, -, X42, ⟨Lc42, hQ42, l42, y42, z42⟩, st42⟩ := Jvm.LawKit.callS X10 hx (y := own_m30) hown (mvT hZ (hw _ (own_w 119 rfl))) (mvT hZ (hw _ (own_w 120 rfl))) (mvT hZ (hw _ (own_w 26 rfl))) (mvT hZ (hw _ (own_w 121 rfl))) (by decide) (backOf (W := 0) (rmtoB_3 l Z a0 hw [] a1 kc c0 c1 c2 T10.heap n0 zs13 f40 qU f41) hZ (hw _ (own_w 121 rfl)) (hw _ (own_w 26 rfl)) (by decide) (by decide)) (g := (mkF m 23 #[.val (.ref a1), .val (.int 0), .val (.int 3), .val (.ref b2), .val (.int 1), .unset] [(.int 3), (.int 0), (.ref a1)])) rfl (by rw [hml]; rfl) (argsL := [(.ref a1), (.int 0), (.int 3)]) (rest := []) (lenOf pd_5 rfl) rfl (by show 2 * 0 + _ ≤ _; exact Nat.le_of_eq rfl) (hb hby d5_23) (fun _ _ => ⟨rfl, rfl, (by decide : 1 + 1 ≤ _), (by decide : 3 + 6 ≤ _)⟩)
    dsimp only [Pt.U, Pt.locs, Pt.cells, Pt.slots] at X42 l42 y42 z42 st42 hQ42
    subst l42 y42 z42
    obtain ⟨b43, kb44, rfl, Nq42, K42, g45, g46⟩ := hQ42
    have N42 := Fr.app N10 Nq42
    have ne47 : a1 ≠ b43 := Nat.ne_of_lt (Nat.lt_of_lt_of_le f41.lt g45)
    have ge48 : n0 ≤ b43 := Nat.le_trans zs13 g45
    have sz49 : h0.size ≤ b43 := Nat.le_trans kc14.1 g45
    have zs50 : n0 ≤ T42.heap.size := Nat.le_trans zs13 K42.1
    have kc51 : Keep h0 T42.heap [] := kc14.trans K42 all0
    have pre52 : own_Go p e below S0 (T42.setTop (mkF m 32 #[.val (.ref a1), .val (.int 0), .val (.int 3), .val (.ref b2), .val (.int 1), .val (.ref b43)] [(.int 1), (.ref b43)])) := by
      intro t kt
      refine pre39 t ?_
      refine st42 _ ?_
      show Steps p.tables e below (T42.setTop (mkF m 26 #[.val (.ref a1), .val (.int 0), .val (.int 3), .val (.ref b2), .val (.int 1), .unset] [(.ref b43)])) _
      refine XS.astore X42.here hx rfl (hb hby d5_26) rfl rfl (l' := #[.val (.ref a1), .val (.int 0), .val (.int 3), .val (.ref b2), .val (.int 1), .val (.ref b43)]) rfl ?_
      refine XS.aload X42.here hx rfl (hb hby d5_28) rfl rfl ?_
      refine XS.iload X42.here hx rfl (hb hby d5_30) rfl ?_
      exact kt
    have f53 : Old Z n0 T42.heap := (f40.keep K42 all0)
    obtain ⟨_, _, ⟨T54, L54, k54, n54⟩, -, X54, ⟨Lc54, hQ54, l54, y54, z54⟩, st54⟩ := Jvm.LawKit.callS X42 hx (y := own_m25) hown (mvT hZ (hw _ (own_w 135 rfl))) (mvT hZ (hw _ (own_w 136 rfl))) (mvT hZ (hw _ (own_w 26 rfl))) (mvT hZ (hw _ (own_w 137 rfl))) (by decide) (backOf (W := 0) (rmgetc l Z a0 hw [] b43 (1 : Int32) kb44 (6 : Int32) [(.int (nar .byte ((c0 >>> ((0 : Int32) &&& 31)).toInt8.toInt32))), (.int (nar .byte ((c0 >>> ((8 : Int32) &&& 31)).toInt8.toInt32))), (.int (nar .byte ((c1 >>> ((0 : Int32) &&& 31)).toInt8.toInt32))), (.int (nar .byte ((c1 >>> ((8 : Int32) &&& 31)).toInt8.toInt32))), (.int (nar .byte ((c2 >>> ((0 : Int32) &&& 31)).toInt8.toInt32))), (.int (nar .byte ((c2 >>> ((8 : Int32) &&& 31)).toInt8.toInt32)))] (.int 0) (nar .byte ((c1 >>> ((0 : Int32) &&& 31)).toInt8.toInt32)) (nar .byte ((c1 >>> ((8 : Int32) &&& 31)).toInt8.toInt32)) 2 3 T42.heap n0 zs50 f53 qU g46 (by decide +kernel) (by decide +kernel) (by decide +kernel) rfl (by decide +kernel) (by decide +kernel) (by decide +kernel) rfl) hZ (hw _ (own_w 137 rfl)) (hw _ (own_w 26 rfl)) (by decide) (by decide)) (g := (mkF m 32 #[.val (.ref a1), .val (.int 0), .val (.int 3), .val (.ref b2), .val (.int 1), .val (.ref b43)] [(.int 1), (.ref b43)])) rfl (by rw [hml]; rfl) (argsL := [(.ref b43), (.int 1)]) (rest := []) (lenOf pd_6 rfl) rfl (by show 2 * 0 + _ ≤ _; exact Nat.le_of_eq rfl) (hb hby d5_32) (fun _ _ => ⟨rfl, rfl, (by decide : 2 + 0 ≤ _), (by decide : 9 + 0 ≤ _)⟩)
    dsimp only [Pt.U, Pt.locs, Pt.cells, Pt.slots] at X54 l54 y54 z54 st54 hQ54
    subst l54 y54 z54
    obtain ⟨rfl, Nq54, eq54⟩ := hQ54
    have N54 := Fr.app N42 Nq54
    have pre55 : own_Go p e below S0 (T54.setTop (mkF m 35 #[.val (.ref a1), .val (.int 0), .val (.int 3), .val (.ref b2), .val (.int 1), .val (.ref b43)] [(.int (own_gc (nar .byte ((c1 >>> ((0 : Int32) &&& 31)).toInt8.toInt32)) (nar .byte ((c1 >>> ((8 : Int32) &&& 31)).toInt8.toInt32))))])) := by
      intro t kt
      refine pre52 t ?_
      refine st54 _ ?_
      show Steps p.tables e below (T54.setTop (mkF m 35 #[.val (.ref a1), .val (.int 0), .val (.int 3), .val (.ref b2), .val (.int 1), .val (.ref b43)] [(.int (own_gc (nar .byte ((c1 >>> ((0 : Int32) &&& 31)).toInt8.toInt32)) (nar .byte ((c1 >>> ((8 : Int32) &&& 31)).toInt8.toInt32))))])) _
      exact kt
    have pre56 : own_Go p e below S0 (T54.setTop (mkF m 35 #[.val (.ref a1), .val (.int 0), .val (.int 3), .val (.ref b2), .val (.int 1), .val (.ref b43)] [(.int c1)])) := by
      intro t kt
      refine pre55 t ?_
      rw [own_utfget c1 (own_fitAt VC 1 (by decide) rfl)]
      exact kt
    have pre57 : own_Go p e below S0 (T54.setTop (mkF m 56 #[.val (.ref a1), .val (.int 0), .val (.int 3), .val (.ref b2), .val (.int 1), .val (.ref b43)] [(.ref b43)])) := by
      intro t kt
      refine pre56 t ?_
      refine XS.sipush X54.here hx rfl (hb hby d5_35) ?_
      refine XS.icmpYes X54.here hx rfl (pc0 := 38) (pc' := 54) rfl (hb hby d5_38) rfl (tlt hg).2.2.1 (by decide) (by decide) ?_
      refine XS.aload X54.here hx rfl (hb hby d5_54) rfl rfl ?_
      exact kt
    obtain ⟨fs, hr, hrun, hended, hW, hsame⟩ := X54.leave (v := some (.ref b43)) (fun h => by rw [Bd.returns] at h; cases h)
    refine ⟨_, _, fin _ (pre57 _ ?_), hrun, hended, _, _, rfl, ?_, ⟨_, rfl⟩, hW, hsame.mono (by decide) (by decide)⟩
    · jvm_step X54.here [X54.here.top, hx, (hb hby d5_56), X54.method', Bd.returns, Value.isRef, FieldType.isReference]
      first | (intro acts; rw [hr _ acts rfl rfl rfl]) | rw [hr _ _ rfl rfl rfl]
      exact Steps.refl _
    · show Qcmp3_3 Z a1 kc c0 c1 c2 h0 n0 _ T54.heap _
      rw [eq54]
      exact ⟨b43, kb44, rfl, N54, kc51, sz49, (Or.inr ⟨⟨own_fitAt VC 0 (by decide) rfl, ⟨own_fitAt VC 1 (by decide) rfl, ⟨own_fitAt VC 2 (by decide) rfl, trivial⟩⟩⟩, g46⟩)⟩
  · have pre58 : own_Go p e below S0 (T10.setTop (mkF m 12 #[.val (.ref a1), .val (.int 0), .val (.int 3), .val (.ref b2), .unset, .unset] [(.int 2)])) := by
      intro t kt
      refine pre15 t ?_
      rw [hr]
      exact kt
    have pre59 : own_Go p e below S0 (T10.setTop (mkF m 23 #[.val (.ref a1), .val (.int 0), .val (.int 3), .val (.ref b2), .val (.int 2), .unset] [(.int 3), (.int 0), (.ref a1)])) := by
      intro t kt
      refine pre58 t ?_
      refine XS.istore X10.here hx rfl (hb hby d5_12) rfl (l' := #[.val (.ref a1), .val (.int 0), .val (.int 3), .val (.ref b2), .val (.int 2), .unset]) rfl ?_
      refine XS.iload X10.here hx rfl (hb hby d5_14) rfl ?_
      refine XS.iloadN X10.here hx rfl (hb hby d5_16) rfl ?_
      refine XS.icmpNo X10.here hx rfl (hb hby d5_17) rfl (feq (by decide : ¬ ((2 : Int32) = (3 : Int32)))).1 ?_
      refine XS.aloadN X10.here hx rfl (hb hby d5_20) rfl rfl ?_
      refine XS.iloadN X10.here hx rfl (hb hby d5_21) rfl ?_
      show Steps p.tables e below (T10.setTop (mkF m 22 #[.val (.ref a1), .val (.int 0), .val (.int 3), .val (.ref b2), .val (.int 2), .unset] [(.int 0), (.ref a1)])) _
      refine XS.iloadN X10.here hx rfl (hb hby d5_22) rfl ?_
      exact kt
    have f60 : Old Z n0 T10.heap := ((O0.ext E2).keep K10 (allS ge4 all0))
    have f61 : Arv Z T10.heap a1 kc .char (3 : Int32) [(.int c0), (.int c1), (.int c2)] (.int 0) := (f9.keep K10 (ninS ne3 nin0))
    obtain ⟨_, _, ⟨T62, L62, k62, n62⟩, -, X62, ⟨Lc62, hQ62, l62, y62, z62⟩, st62⟩ := Jvm.LawKit.callS X10 hx (y := own_m30) hown (mvT hZ (hw _ (own_w 119 rfl))) (mvT hZ (hw _ (own_w 120 rfl))) (mvT hZ (hw _ (own_w 26 rfl))) (mvT hZ (hw _ (own_w 121 rfl))) (by decide) (backOf (W := 0) (rmtoB_3 l Z a0 hw [] a1 kc c0 c1 c2 T10.heap n0 zs13 f60 qU f61) hZ (hw _ (own_w 121 rfl)) (hw _ (own_w 26 rfl)) (by decide) (by decide)) (g := (mkF m 23 #[.val (.ref a1), .val (.int 0), .val (.int 3), .val (.ref b2), .val (.int 2), .unset] [(.int 3), (.int 0), (.ref a1)])) rfl (by rw [hml]; rfl) (argsL := [(.ref a1), (.int 0), (.int 3)]) (rest := []) (lenOf pd_5 rfl) rfl (by show 2 * 0 + _ ≤ _; exact Nat.le_of_eq rfl) (hb hby d5_23) (fun _ _ => ⟨rfl, rfl, (by decide : 1 + 1 ≤ _), (by decide : 3 + 6 ≤ _)⟩)
    dsimp only [Pt.U, Pt.locs, Pt.cells, Pt.slots] at X62 l62 y62 z62 st62 hQ62
    subst l62 y62 z62
    obtain ⟨b63, kb64, rfl, Nq62, K62, g65, g66⟩ := hQ62
    have N62 := Fr.app N10 Nq62
    have ne67 : a1 ≠ b63 := Nat.ne_of_lt (Nat.lt_of_lt_of_le f61.lt g65)
    have ge68 : n0 ≤ b63 := Nat.le_trans zs13 g65
    have sz69 : h0.size ≤ b63 := Nat.le_trans kc14.1 g65
    have zs70 : n0 ≤ T62.heap.size := Nat.le_trans zs13 K62.1
    have kc71 : Keep h0 T62.heap [] := kc14.trans K62 all0
    have pre72 : own_Go p e below S0 (T62.setTop (mkF m 32 #[.val (.ref a1), .val (.int 0), .val (.int 3), .val (.ref b2), .val (.int 2), .val (.ref b63)] [(.int 2), (.ref b63)])) := by
      intro t kt
      refine pre59 t ?_
      refine st62 _ ?_
      show Steps p.tables e below (T62.setTop (mkF m 26 #[.val (.ref a1), .val (.int 0), .val (.int 3), .val (.ref b2), .val (.int 2), .unset] [(.ref b63)])) _
      refine XS.astore X62.here hx rfl (hb hby d5_26) rfl rfl (l' := #[.val (.ref a1), .val (.int 0), .val (.int 3), .val (.ref b2), .val (.int 2), .val (.ref b63)]) rfl ?_
      refine XS.aload X62.here hx rfl (hb hby d5_28) rfl rfl ?_
      refine XS.iload X62.here hx rfl (hb hby d5_30) rfl ?_
      exact kt
    have f73 : Old Z n0 T62.heap := (f60.keep K62 all0)
    obtain ⟨_, _, ⟨T74, L74, k74, n74⟩, -, X74, ⟨Lc74, hQ74, l74, y74, z74⟩, st74⟩ := Jvm.LawKit.callS X62 hx (y := own_m25) hown (mvT hZ (hw _ (own_w 135 rfl))) (mvT hZ (hw _ (own_w 136 rfl))) (mvT hZ (hw _ (own_w 26 rfl))) (mvT hZ (hw _ (own_w 137 rfl))) (by decide) (backOf (W := 0) (rmgetc l Z a0 hw [] b63 (2 : Int32) kb64 (6 : Int32) [(.int (nar .byte ((c0 >>> ((0 : Int32) &&& 31)).toInt8.toInt32))), (.int (nar .byte ((c0 >>> ((8 : Int32) &&& 31)).toInt8.toInt32))), (.int (nar .byte ((c1 >>> ((0 : Int32) &&& 31)).toInt8.toInt32))), (.int (nar .byte ((c1 >>> ((8 : Int32) &&& 31)).toInt8.toInt32))), (.int (nar .byte ((c2 >>> ((0 : Int32) &&& 31)).toInt8.toInt32))), (.int (nar .byte ((c2 >>> ((8 : Int32) &&& 31)).toInt8.toInt32)))] (.int 0) (nar .byte ((c2 >>> ((0 : Int32) &&& 31)).toInt8.toInt32)) (nar .byte ((c2 >>> ((8 : Int32) &&& 31)).toInt8.toInt32)) 4 5 T62.heap n0 zs70 f73 qU g66 (by decide +kernel) (by decide +kernel) (by decide +kernel) rfl (by decide +kernel) (by decide +kernel) (by decide +kernel) rfl) hZ (hw _ (own_w 137 rfl)) (hw _ (own_w 26 rfl)) (by decide) (by decide)) (g := (mkF m 32 #[.val (.ref a1), .val (.int 0), .val (.int 3), .val (.ref b2), .val (.int 2), .val (.ref b63)] [(.int 2), (.ref b63)])) rfl (by rw [hml]; rfl) (argsL := [(.ref b63), (.int 2)]) (rest := []) (lenOf pd_6 rfl) rfl (by show 2 * 0 + _ ≤ _; exact Nat.le_of_eq rfl) (hb hby d5_32) (fun _ _ => ⟨rfl, rfl, (by decide : 2 + 0 ≤ _), (by decide : 9 + 0 ≤ _)⟩)
    dsimp only [Pt.U, Pt.locs, Pt.cells, Pt.slots] at X74 l74 y74 z74 st74 hQ74
    subst l74 y74 z74
    obtain ⟨rfl, Nq74, eq74⟩ := hQ74
    have N74 := Fr.app N62 Nq74
    have pre75 : own_Go p e below S0 (T74.setTop (mkF m 35 #[.val (.ref a1), .val (.int 0), .val (.int 3), .val (.ref b2), .val (.int 2), .val (.ref b63)] [(.int (own_gc (nar .byte ((c2 >>> ((0 : Int32) &&& 31)).toInt8.toInt32)) (nar .byte ((c2 >>> ((8 : Int32) &&& 31)).toInt8.toInt32))))])) := by
      intro t kt
      refine pre72 t ?_
      refine st74 _ ?_
      show Steps p.tables e below (T74.setTop (mkF m 35 #[.val (.ref a1), .val (.int 0), .val (.int 3), .val (.ref b2), .val (.int 2), .val (.ref b63)] [(.int (own_gc (nar .byte ((c2 >>> ((0 : Int32) &&& 31)).toInt8.toInt32)) (nar .byte ((c2 >>> ((8 : Int32) &&& 31)).toInt8.toInt32))))])) _
      exact kt
    have pre76 : own_Go p e below S0 (T74.setTop (mkF m 35 #[.val (.ref a1), .val (.int 0), .val (.int 3), .val (.ref b2), .val (.int 2), .val (.ref b63)] [(.int c2)])) := by
      intro t kt
      refine pre75 t ?_
      rw [own_utfget c2 (own_fitAt VC 2 (by decide) rfl)]
      exact kt
    have pre77 : own_Go p e below S0 (T74.setTop (mkF m 56 #[.val (.ref a1), .val (.int 0), .val (.int 3), .val (.ref b2), .val (.int 2), .val (.ref b63)] [(.ref b63)])) := by
      intro t kt
      refine pre76 t ?_
      refine XS.sipush X74.here hx rfl (hb hby d5_35) ?_
      refine XS.icmpYes X74.here hx rfl (pc0 := 38) (pc' := 54) rfl (hb hby d5_38) rfl (tlt hg).2.2.1 (by decide) (by decide) ?_
      refine XS.aload X74.here hx rfl (hb hby d5_54) rfl rfl ?_
      exact kt
    obtain ⟨fs, hr, hrun, hended, hW, hsame⟩ := X74.leave (v := some (.ref b63)) (fun h => by rw [Bd.returns] at h; cases h)
    refine ⟨_, _, fin _ (pre77 _ ?_), hrun, hended, _, _, rfl, ?_, ⟨_, rfl⟩, hW, hsame.mono (by decide) (by decide)⟩
    · jvm_step X74.here [X74.here.top, hx, (hb hby d5_56), X74.method', Bd.returns, Value.isRef, FieldType.isReference]
      first | (intro acts; rw [hr _ acts rfl rfl rfl]) | rw [hr _ _ rfl rfl rfl]
      exact Steps.refl _
    · show Qcmp3_3 Z a1 kc c0 c1 c2 h0 n0 _ T74.heap _
      rw [eq74]
      exact ⟨b63, kb64, rfl, N74, kc71, sz69, (Or.inr ⟨⟨own_fitAt VC 0 (by decide) rfl, ⟨own_fitAt VC 1 (by decide) rfl, ⟨own_fitAt VC 2 (by decide) rfl, trivial⟩⟩⟩, g66⟩)⟩

theorem ef_init4_3 (m : MethodId) (x0 : Addr) (x1 : Addr) : entryFrame m #[(.ref x0), (.ref x1), (.int 0), (.int 3), .null] 6 = mkF m 0 #[.val (.ref x0), .val (.ref x1), .val (.int 0), .val (.int 3), .val .null, .unset] [] := by first | (simp [entryFrame, mkF, argsToLocals, Value.category]; done) | rfl
def Qinit4_3 (Z : State) (a1 : Addr) (a2 : Addr) (kc : ClassId) (c0 : Int32) (c1 : Int32) (c2 : Int32) (wC : Int32) (h0 : Heap) (n0 : Nat) (v : Option Value) (h : Heap) (L : List Loc) : Prop := ∃ vb : Addr, ∃ kb : ClassId, v = none ∧ Fr n0 L ∧ Keep h0 h [a1] ∧ h0.size ≤ vb ∧ own_Str Z h a1 vb kb [c0, c1, c2]
set_option maxRecDepth 65536 in
set_option maxHeartbeats 40000000 in
theorem rminit4_3 (l : Launch) (Z : State) (a0 : Array Value) (hw : ∀ d ∈ tables_1, d.before a0 Z = true) (ws : List Jvm.Cond) (a1 : Addr) (a2 : Addr) (kc : ClassId) (c0 : Int32) (c1 : Int32) (c2 : Int32) (wC : Int32) (h0 : Heap) (n0 : Nat) (Z0 : n0 ≤ h0.size) (O0 : Old Z n0 h0) (qC : (own_SC Z wC)) (qU : (own_SU Z)) (E1 : Exa Z h0 a1 "java/lang/String") (F1 : Fld Z h0 a1 "java/lang/String" "value" "[B" .null) (F2 : Fld Z h0 a1 "java/lang/String" "coder" "B" (.int 0)) (g1 : n0 ≤ a1) (VC : Arv Z h0 a2 kc .char (3 : Int32) [(.int c0), (.int c1), (.int c2)] (.int 0)) :
    MetFree l own_m7 (head1 (Jvm.Cond.code own_m7 jdk_42_method_149_code 6 none :: ws) (own_r 4 2 9 57)) (fun a U => a = #[(.ref a1), (.ref a2), (.int 0), (.int 3), .null] ∧ Z.Warmed39 U.vm ∧ U.heap = h0) (fun _ _ _ _ _ => True) (fun _ U o U' => ∃ v L, o = .returned v ∧ Qinit4_3 Z a1 a2 kc c0 c1 c2 wC h0 n0 v U'.heap L ∧ FrameEnd U o U' L (own_r 4 2 9 57).cells (own_r 4 2 9 57).slots) := by
  refine MetFree.of_bodySF (plainFor_of_name pn_3) hisR ?_
  intro p e s m args below meth c s₁ Bd hml0 hP hK
  obtain ⟨rfl, hZ, hh⟩ := hP
  have hx := Bd.exec
  have hby := Bd.bytes
  have hml : c.maxLocals = 6 := hml0
  have hown0 := findClass_of_methodNamed Bd.named
  have hown : s.vm.findClass "java/lang/String" = some m.cls := hown0
  have hnm := (name_of_methodNamed Bd.named Bd.method).1
  have X0 : Stand p l e (own_r 4 2 9 57) s m #[(.ref a1), (.ref a2), (.int 0), (.int 3), .null] below meth c s₁ [] 0 0 := Stand.of_body Bd
  have e0 : s₁.heap = h0 := by rw [← hh, Bd.state]; rfl
  have N0 := Fr.nil n0
  obtain ⟨S0, hS0⟩ : ∃ z, z = s₁.setTop (entryFrame m #[(.ref a1), (.ref a2), (.int 0), (.int 3), .null] 6) := ⟨_, rfl⟩
  have pre0 : own_Go p e below S0 (s₁.setTop (mkF m 0 #[.val (.ref a1), .val (.ref a2), .val (.int 0), .val (.int 3), .val .null, .unset] [])) := fun t k => by rw [hS0]; exact castTop (ef_init4_3 m a1 a2) k
  have fin : ∀ t, Steps p.tables e below S0 t → Steps p.tables e below (s₁.setTop (entryFrame m #[(.ref a1), (.ref a2), (.int 0), (.int 3), .null] 6)) t := fun t k => by rw [hS0] at k; exact k
  have kc0 : Keep h0 h0 [a1] := Keep.refl _ _
  have pre1 : own_Go p e below S0 (s₁.setTop (mkF m 1 #[.val (.ref a1), .val (.ref a2), .val (.int 0), .val (.int 3), .val .null, .unset] [(.ref a1)])) := by
    intro t kt
    refine pre0 t ?_
    refine XS.aloadN X0.here hx rfl (hb hby d3_0) rfl rfl ?_
    exact kt
  obtain ⟨T2, X2, e2, st2⟩ := initO X0 hx hZ hown (hw _ (own_w 20 rfl)) (hw _ (own_w 21 rfl)) (hw _ (own_w 22 rfl)) e0 (g := (mkF m 1 #[.val (.ref a1), .val (.ref a2), .val (.int 0), .val (.int 3), .val .null, .unset] [(.ref a1)])) rfl (by rw [hml]; rfl) rfl (hb hby d3_1) (by decide) (W := 0) (by show 2 * 0 + _ ≤ _; exact Nat.le_of_eq rfl) (by decide)
  have pre3 : own_Go p e below S0 (T2.setTop (mkF m 27 #[.val (.ref a1), .val (.ref a2), .val (.int 0), .val (.int 3), .val .null, .unset] [])) := by
    intro t kt
    refine pre1 t ?_
    refine st2 _ ?_
    refine XS.iloadN X2.here hx rfl (hb hby d3_4) rfl ?_
    refine XS.ifYes X2.here hx rfl (pc0 := 5) (pc' := 27) rfl (hb hby d3_5) rfl ((if0 _ _).trans (feq (by decide : ¬ ((3 : Int32) = (0 : Int32)))).2) (by decide) (by decide) ?_
    exact kt
  obtain ⟨T4, X4, e4, st4⟩ := getS2 X2 hx hZ hown (host := "") (Or.inl (hw _ (own_w 23 rfl))) Via.refl e2 (qC.1.ext O0.2) (g := (mkF m 27 #[.val (.ref a1), .val (.ref a2), .val (.int 0), .val (.int 3), .val .null, .unset] [])) rfl (hb hby d3_27)
  have pre5 : own_Go p e below S0 (T4.setTop (mkF m 36 #[.val (.ref a1), .val (.ref a2), .val (.int 0), .val (.int 3), .val .null, .unset] [(.int 3), (.int 0), (.ref a2)])) := by
    intro t kt
    refine pre3 t ?_
    refine st4 _ ?_
    refine XS.ifNo X4.here hx rfl (hb hby d3_30) rfl ((if0 _ _).trans (feq qC.2).1) ?_
    refine XS.aloadN X4.here hx rfl (hb hby d3_33) rfl rfl ?_
    refine XS.iloadN X4.here hx rfl (hb hby d3_34) rfl ?_
    refine XS.iloadN X4.here hx rfl (hb hby d3_35) rfl ?_
    exact kt
  obtain ⟨_, _, ⟨T6, L6, k6, n6⟩, -, X6, ⟨Lc6, hQ6, l6, y6, z6⟩, st6⟩ := Jvm.LawKit.callS X4 hx (y := own_m23) hown (mvT hZ (hw _ (own_w 24 rfl))) (mvT hZ (hw _ (own_w 25 rfl))) (mvT hZ (hw _ (own_w 26 rfl))) (mvT hZ (hw _ (own_w 27 rfl))) (by decide) (backOf (W := 0) (rmcmp3_3 l Z a0 hw [] a2 kc c0 c1 c2 h0 n0 Z0 O0 qU VC) hZ (hw _ (own_w 27 rfl)) (hw _ (own_w 26 rfl)) (by decide) (by decide)) (g := (mkF m 36 #[.val (.ref a1), .val (.ref a2), .val (.int 0), .val (.int 3), .val .null, .unset] [(.int 3), (.int 0), (.ref a2)])) rfl (by rw [hml]; rfl) (argsL := [(.ref a2), (.int 0), (.int 3)]) (rest := []) (lenOf pd_5 rfl) rfl (by show 2 * 0 + _ ≤ _; exact Nat.le_of_eq rfl) (hb hby d3_36) (fun _ _ => ⟨rfl, e4, (by decide : 0 + 2 ≤ _), (by decide : 0 + 9 ≤ _)⟩)
  dsimp only [Pt.U, Pt.locs, Pt.cells, Pt.slots] at X6 l6 y6 z6 st6 hQ6
  subst l6 y6 z6
  obtain ⟨b7, kb8, rfl, Nq6, K6, g9, g10⟩ := hQ6
  have N6 := Fr.app N0 Nq6
  have ne11 : a1 ≠ b7 := Nat.ne_of_lt (Nat.lt_of_lt_of_le E1.lt g9)
  have ne12 : a2 ≠ b7 := Nat.ne_of_lt (Nat.lt_of_lt_of_le VC.lt g9)
  have ge13 : n0 ≤ b7 := Nat.le_trans Z0 g9
  have sz14 : h0.size ≤ b7 := Nat.le_trans kc0.1 g9
  have zs15 : n0 ≤ T6.heap.size := Nat.le_trans Z0 K6.1
  have kc16 : Keep h0 T6.heap [a1] := kc0.trans K6 all0
  have pre17 : own_Go p e below S0 (T6.setTop (mkF m 39 #[.val (.ref a1), .val (.ref a2), .val (.int 0), .val (.int 3), .val .null, .unset] [(.ref b7)])) := by
    intro t kt
    refine pre5 t ?_
    refine st6 _ ?_
    show Steps p.tables e below (T6.setTop (mkF m 39 #[.val (.ref a1), .val (.ref a2), .val (.int 0), .val (.int 3), .val .null, .unset] [(.ref b7)])) _
    exact kt
  obtain ⟨hl, hv⟩ | ⟨hl, hv⟩ := g10
  · have pre18 : own_Go p e below S0 (T6.setTop (mkF m 45 #[.val (.ref a1), .val (.ref a2), .val (.int 0), .val (.int 3), .val .null, .val (.ref b7)] [(.int 3), (.ref b7), (.ref a1)])) := by
      intro t kt
      refine pre17 t ?_
      refine XS.astore X6.here hx rfl (hb hby d3_39) rfl rfl (l' := #[.val (.ref a1), .val (.ref a2), .val (.int 0), .val (.int 3), .val .null, .val (.ref b7)]) rfl ?_
      refine XS.aloadN X6.here hx rfl (hb hby d3_41) rfl rfl ?_
      refine XS.aload X6.here hx rfl (hb hby d3_42) rfl rfl ?_
      refine XS.iloadN X6.here hx rfl (hb hby d3_44) rfl ?_
      exact kt
    obtain ⟨_, _, ⟨T19, L19, k19, n19⟩, -, X19, ⟨Lc19, hQ19, l19, y19, z19⟩, st19⟩ := Jvm.LawKit.callS X6 hx (y := own_m22) hown (mvT hZ (hw _ (own_w 32 rfl))) (mvT hZ (hw _ (own_w 33 rfl))) (mvT hZ (hw _ (own_w 26 rfl))) (mvT hZ (hw _ (own_w 34 rfl))) (by decide) (backOf (W := 1) (rmcofa l Z a0 hw [] b7 (3 : Int32) kb8 (3 : Int32) [(.int (nar .byte (c0.toInt8.toInt32))), (.int (nar .byte (c1.toInt8.toInt32))), (.int (nar .byte (c2.toInt8.toInt32)))] (.int 0) T6.heap n0 zs15 hv) hZ (hw _ (own_w 34 rfl)) (hw _ (own_w 26 rfl)) (by decide) (by decide)) (g := (mkF m 45 #[.val (.ref a1), .val (.ref a2), .val (.int 0), .val (.int 3), .val .null, .val (.ref b7)] [(.int 3), (.ref b7), (.ref a1)])) rfl (by rw [hml]; rfl) (argsL := [(.ref b7), (.int 3)]) (rest := [(.ref a1)]) (lenOf pd_7 rfl) rfl (by show 2 * 0 + _ ≤ _; exact Nat.le_of_eq rfl) (hb hby d3_45) (fun _ _ => ⟨rfl, rfl, (by decide : 2 + 0 ≤ _), (by decide : 9 + 0 ≤ _)⟩)
    dsimp only [Pt.U, Pt.locs, Pt.cells, Pt.slots] at X19 l19 y19 z19 st19 hQ19
    subst l19 y19 z19
    obtain ⟨rfl, Nq19, eq19⟩ := hQ19
    have N19 := Fr.app N6 Nq19
    have pre20 : own_Go p e below S0 (T19.setTop (mkF m 48 #[.val (.ref a1), .val (.ref a2), .val (.int 0), .val (.int 3), .val .null, .val (.ref b7)] [(.int (own_cofa (3 : Int32) (3 : Int32))), (.ref a1)])) := by
      intro t kt
      refine pre18 t ?_
      refine st19 _ ?_
      show Steps p.tables e below (T19.setTop (mkF m 48 #[.val (.ref a1), .val (.ref a2), .val (.int 0), .val (.int 3), .val .null, .val (.ref b7)] [(.int (own_cofa (3 : Int32) (3 : Int32))), (.ref a1)])) _
      exact kt
    have pre21 : own_Go p e below S0 (T19.setTop (mkF m 48 #[.val (.ref a1), .val (.ref a2), .val (.int 0), .val (.int 3), .val .null, .val (.ref b7)] [(.int 0), (.ref a1)])) := by
      intro t kt
      refine pre20 t ?_
      rw [(by decide : (own_cofa (3 : Int32) (3 : Int32)) = (0 : Int32))]
      exact kt
    have f22 : Fld Z T6.heap a1 "java/lang/String" "coder" "B" (.int 0) := (F2.keep K6 nin0)
    have f23 : Exa Z T6.heap a1 "java/lang/String" := (E1.keep K6)
    obtain ⟨T24, h24, X24, e24, W24, st24⟩ := putFN X19 hx hZ hown (hw _ (own_w 35 rfl)) Via.refl eq19 f22 f23 (Or.inr ⟨(hw _ (own_w 36 rfl)), rfl, hnm⟩) (hw _ (own_w 10 rfl)) (ty := .byte) (v' := (.int 0)) (by decide) rfl (by decide) (g := (mkF m 48 #[.val (.ref a1), .val (.ref a2), .val (.int 0), .val (.int 3), .val .null, .val (.ref b7)] [(.int 0), (.ref a1)])) rfl rfl (hb hby d3_48)
    have N24 := Fr.snoc X24 N19 g1
    have zs25 : n0 ≤ h24.size := Nat.le_trans zs15 (Keep.of_wr W24).1
    have kc26 : Keep h0 h24 [a1] := kc16.wr W24 (Or.inl (List.mem_of_getElem? (i := 0) rfl))
    have fw24 : Fld Z h24 a1 "java/lang/String" "coder" "B" (.int 0) := f22.same W24
    have pre27 : own_Go p e below S0 (T24.setTop (mkF m 54 #[.val (.ref a1), .val (.ref a2), .val (.int 0), .val (.int 3), .val .null, .val (.ref b7)] [(.ref b7), (.ref a1)])) := by
      intro t kt
      refine pre21 t ?_
      refine st24 _ ?_
      refine XS.aloadN X24.here hx rfl (hb hby d3_51) rfl rfl ?_
      refine XS.aload X24.here hx rfl (hb hby d3_52) rfl rfl ?_
      exact kt
    have f28 : Fld Z h24 a1 "java/lang/String" "value" "[B" .null := ((F1.keep K6 nin0).other W24 (Or.inr (slot_ne (Or.inr (hw _ (own_w 38 rfl))) (Or.inr (hw _ (own_w 36 rfl))) (by decide) (t := (.array .byte)) (t' := .byte) (by decide) (by decide))))
    have f29 : Exa Z h24 a1 "java/lang/String" := (f23.wr W24)
    obtain ⟨T30, h30, X30, e30, W30, st30⟩ := putF X24 hx hZ hown (host := "") (Or.inl (hw _ (own_w 37 rfl))) Via.refl e24 f28 f29 (Or.inr ⟨(hw _ (own_w 38 rfl)), rfl, hnm⟩) (hw _ (own_w 10 rfl)) (ty := (.array .byte)) (by decide) rfl rfl (g := (mkF m 54 #[.val (.ref a1), .val (.ref a2), .val (.int 0), .val (.int 3), .val .null, .val (.ref b7)] [(.ref b7), (.ref a1)])) rfl rfl (hb hby d3_54)
    have N30 := Fr.snoc X30 N24 g1
    have zs31 : n0 ≤ h30.size := Nat.le_trans zs25 (Keep.of_wr W30).1
    have kc32 : Keep h0 h30 [a1] := kc26.wr W30 (Or.inl (List.mem_of_getElem? (i := 0) rfl))
    have fw30 : Fld Z h30 a1 "java/lang/String" "value" "[B" (.ref b7) := f28.same W30
    have pre33 : own_Go p e below S0 (T30.setTop (mkF m 57 #[.val (.ref a1), .val (.ref a2), .val (.int 0), .val (.int 3), .val .null, .val (.ref b7)] [])) := by
      intro t kt
      refine pre27 t ?_
      refine st30 _ ?_
      exact kt
    have f34 : Exa Z h30 a1 "java/lang/String" := (f29.wr W30)
    have f35 : Fld Z h30 a1 "java/lang/String" "coder" "B" (.int 0) := (fw24.other W30 (Or.inr (slot_ne (Or.inr (hw _ (own_w 36 rfl))) (Or.inr (hw _ (own_w 38 rfl))) (by decide) (t := .byte) (t' := (.array .byte)) (by decide) (by decide))))
    have f36 : Arv Z h30 b7 kb8 .byte (3 : Int32) [(.int (nar .byte (c0.toInt8.toInt32))), (.int (nar .byte (c1.toInt8.toInt32))), (.int (nar .byte (c2.toInt8.toInt32)))] (.int 0) := ((hv.other W24 (Ne.symm ne11)).other W30 (Ne.symm ne11))
    obtain ⟨fs, hr, hrun, hended, hW, hsame⟩ := X30.leave (v := none) (fun _ => rfl)
    refine ⟨_, _, fin _ (pre33 _ ?_), hrun, hended, _, _, rfl, ?_, ⟨_, rfl⟩, hW, hsame.mono (by decide) (by decide)⟩
    · exact X30.returnOut hx Bd.returns (hb hby d3_57) hr
    · show Qinit4_3 Z a1 a2 kc c0 c1 c2 wC h0 n0 _ T30.heap _
      rw [e30]
      exact ⟨b7, kb8, rfl, N30, kc32, sz14, ⟨f34, fw30, Or.inl ⟨f35, hl, f36⟩⟩⟩
  · have pre37 : own_Go p e below S0 (T6.setTop (mkF m 45 #[.val (.ref a1), .val (.ref a2), .val (.int 0), .val (.int 3), .val .null, .val (.ref b7)] [(.int 3), (.ref b7), (.ref a1)])) := by
      intro t kt
      refine pre17 t ?_
      refine XS.astore X6.here hx rfl (hb hby d3_39) rfl rfl (l' := #[.val (.ref a1), .val (.ref a2), .val (.int 0), .val (.int 3), .val .null, .val (.ref b7)]) rfl ?_
      refine XS.aloadN X6.here hx rfl (hb hby d3_41) rfl rfl ?_
      refine XS.aload X6.here hx rfl (hb hby d3_42) rfl rfl ?_
      refine XS.iloadN X6.here hx rfl (hb hby d3_44) rfl ?_
      exact kt
    obtain ⟨_, _, ⟨T38, L38, k38, n38⟩, -, X38, ⟨Lc38, hQ38, l38, y38, z38⟩, st38⟩ := Jvm.LawKit.callS X6 hx (y := own_m22) hown (mvT hZ (hw _ (own_w 32 rfl))) (mvT hZ (hw _ (own_w 33 rfl))) (mvT hZ (hw _ (own_w 26 rfl))) (mvT hZ (hw _ (own_w 34 rfl))) (by decide) (backOf (W := 1) (rmcofa l Z a0 hw [] b7 (3 : Int32) kb8 (6 : Int32) [(.int (nar .byte ((c0 >>> ((0 : Int32) &&& 31)).toInt8.toInt32))), (.int (nar .byte ((c0 >>> ((8 : Int32) &&& 31)).toInt8.toInt32))), (.int (nar .byte ((c1 >>> ((0 : Int32) &&& 31)).toInt8.toInt32))), (.int (nar .byte ((c1 >>> ((8 : Int32) &&& 31)).toInt8.toInt32))), (.int (nar .byte ((c2 >>> ((0 : Int32) &&& 31)).toInt8.toInt32))), (.int (nar .byte ((c2 >>> ((8 : Int32) &&& 31)).toInt8.toInt32)))] (.int 0) T6.heap n0 zs15 hv) hZ (hw _ (own_w 34 rfl)) (hw _ (own_w 26 rfl)) (by decide) (by decide)) (g := (mkF m 45 #[.val (.ref a1), .val (.ref a2), .val (.int 0), .val (.int 3), .val .null, .val (.ref b7)] [(.int 3), (.ref b7), (.ref a1)])) rfl (by rw [hml]; rfl) (argsL := [(.ref b7), (.int 3)]) (rest := [(.ref a1)]) (lenOf pd_7 rfl) rfl (by show 2 * 0 + _ ≤ _; exact Nat.le_of_eq rfl) (hb hby d3_45) (fun _ _ => ⟨rfl, rfl, (by decide : 2 + 0 ≤ _), (by decide : 9 + 0 ≤ _)⟩)
    dsimp only [Pt.U, Pt.locs, Pt.cells, Pt.slots] at X38 l38 y38 z38 st38 hQ38
    subst l38 y38 z38
    obtain ⟨rfl, Nq38, eq38⟩ := hQ38
    have N38 := Fr.app N6 Nq38
    have pre39 : own_Go p e below S0 (T38.setTop (mkF m 48 #[.val (.ref a1), .val (.ref a2), .val (.int 0), .val (.int 3), .val .null, .val (.ref b7)] [(.int (own_cofa (3 : Int32) (6 : Int32))), (.ref a1)])) := by
      intro t kt
      refine pre37 t ?_
      refine st38 _ ?_
      show Steps p.tables e below (T38.setTop (mkF m 48 #[.val (.ref a1), .val (.ref a2), .val (.int 0), .val (.int 3), .val .null, .val (.ref b7)] [(.int (own_cofa (3 : Int32) (6 : Int32))), (.ref a1)])) _
      exact kt
    have pre40 : own_Go p e below S0 (T38.setTop (mkF m 48 #[.val (.ref a1), .val (.ref a2), .val (.int 0), .val (.int 3), .val .null, .val (.ref b7)] [(.int 1), (.ref a1)])) := by
      intro t kt
      refine pre39 t ?_
      rw [(by decide : (own_cofa (3 : Int32) (6 : Int32)) = (1 : Int32))]
      exact kt
    have f41 : Fld Z T6.heap a1 "java/lang/String" "coder" "B" (.int 0) := (F2.keep K6 nin0)
    have f42 : Exa Z T6.heap a1 "java/lang/String" := (E1.keep K6)
    obtain ⟨T43, h43, X43, e43, W43, st43⟩ := putFN X38 hx hZ hown (hw _ (own_w 35 rfl)) Via.refl eq38 f41 f42 (Or.inr ⟨(hw _ (own_w 36 rfl)), rfl, hnm⟩) (hw _ (own_w 10 rfl)) (ty := .byte) (v' := (.int 1)) (by decide) rfl (by decide) (g := (mkF m 48 #[.val (.ref a1), .val (.ref a2), .val (.int 0), .val (.int 3), .val .null, .val (.ref b7)] [(.int 1), (.ref a1)])) rfl rfl (hb hby d3_48)
    have N43 := Fr.snoc X43 N38 g1
    have zs44 : n0 ≤ h43.size := Nat.le_trans zs15 (Keep.of_wr W43).1
    have kc45 : Keep h0 h43 [a1] := kc16.wr W43 (Or.inl (List.mem_of_getElem? (i := 0) rfl))
    have fw43 : Fld Z h43 a1 "java/lang/String" "coder" "B" (.int 1) := f41.same W43
    have pre46 : own_Go p e below S0 (T43.setTop (mkF m 54 #[.val (.ref a1), .val (.ref a2), .val (.int 0), .val (.int 3), .val .null, .val (.ref b7)] [(.ref b7), (.ref a1)])) := by
      intro t kt
      refine pre40 t ?_
      refine st43 _ ?_
      refine XS.aloadN X43.here hx rfl (hb hby d3_51) rfl rfl ?_
      refine XS.aload X43.here hx rfl (hb hby d3_52) rfl rfl ?_
      exact kt
    have f47 : Fld Z h43 a1 "java/lang/String" "value" "[B" .null := ((F1.keep K6 nin0).other W43 (Or.inr (slot_ne (Or.inr (hw _ (own_w 38 rfl))) (Or.inr (hw _ (own_w 36 rfl))) (by decide) (t := (.array .byte)) (t' := .byte) (by decide) (by decide))))
    have f48 : Exa Z h43 a1 "java/lang/String" := (f42.wr W43)
    obtain ⟨T49, h49, X49, e49, W49, st49⟩ := putF X43 hx hZ hown (host := "") (Or.inl (hw _ (own_w 37 rfl))) Via.refl e43 f47 f48 (Or.inr ⟨(hw _ (own_w 38 rfl)), rfl, hnm⟩) (hw _ (own_w 10 rfl)) (ty := (.array .byte)) (by decide) rfl rfl (g := (mkF m 54 #[.val (.ref a1), .val (.ref a2), .val (.int 0), .val (.int 3), .val .null, .val (.ref b7)] [(.ref b7), (.ref a1)])) rfl rfl (hb hby d3_54)
    have N49 := Fr.snoc X49 N43 g1
    have zs50 : n0 ≤ h49.size := Nat.le_trans zs44 (Keep.of_wr W49).1
    have kc51 : Keep h0 h49 [a1] := kc45.wr W49 (Or.inl (List.mem_of_getElem? (i := 0) rfl))
    have fw49 : Fld Z h49 a1 "java/lang/String" "value" "[B" (.ref b7) := f47.same W49
    have pre52 : own_Go p e below S0 (T49.setTop (mkF m 57 #[.val (.ref a1), .val (.ref a2), .val (.int 0), .val (.int 3), .val .null, .val (.ref b7)] [])) := by
      intro t kt
      refine pre46 t ?_
      refine st49 _ ?_
      exact kt
    have f53 : Exa Z h49 a1 "java/lang/String" := (f48.wr W49)
    have f54 : Fld Z h49 a1 "java/lang/String" "coder" "B" (.int 1) := (fw43.other W49 (Or.inr (slot_ne (Or.inr (hw _ (own_w 36 rfl))) (Or.inr (hw _ (own_w 38 rfl))) (by decide) (t := .byte) (t' := (.array .byte)) (by decide) (by decide))))
    have f55 : Arv Z h49 b7 kb8 .byte (6 : Int32) [(.int (nar .byte ((c0 >>> ((0 : Int32) &&& 31)).toInt8.toInt32))), (.int (nar .byte ((c0 >>> ((8 : Int32) &&& 31)).toInt8.toInt32))), (.int (nar .byte ((c1 >>> ((0 : Int32) &&& 31)).toInt8.toInt32))), (.int (nar .byte ((c1 >>> ((8 : Int32) &&& 31)).toInt8.toInt32))), (.int (nar .byte ((c2 >>> ((0 : Int32) &&& 31)).toInt8.toInt32))), (.int (nar .byte ((c2 >>> ((8 : Int32) &&& 31)).toInt8.toInt32)))] (.int 0) := ((hv.other W43 (Ne.symm ne11)).other W49 (Ne.symm ne11))
    obtain ⟨fs, hr, hrun, hended, hW, hsame⟩ := X49.leave (v := none) (fun _ => rfl)
    refine ⟨_, _, fin _ (pre52 _ ?_), hrun, hended, _, _, rfl, ?_, ⟨_, rfl⟩, hW, hsame.mono (by decide) (by decide)⟩
    · exact X49.returnOut hx Bd.returns (hb hby d3_57) hr
    · show Qinit4_3 Z a1 a2 kc c0 c1 c2 wC h0 n0 _ T49.heap _
      rw [e49]
      exact ⟨b7, kb8, rfl, N49, kc51, sz14, ⟨f53, fw49, Or.inr ⟨f54, hl, f55⟩⟩⟩

theorem ef_init1_3 (m : MethodId) (x0 : Addr) (x1 : Addr) : entryFrame m #[(.ref x0), (.ref x1)] 2 = mkF m 0 #[.val (.ref x0), .val (.ref x1)] [] := by first | (simp [entryFrame, mkF, argsToLocals, Value.category]; done) | rfl
def Qinit1_3 (Z : State) (a1 : Addr) (a2 : Addr) (kc : ClassId) (c0 : Int32) (c1 : Int32) (c2 : Int32) (wC : Int32) (h0 : Heap) (n0 : Nat) (v : Option Value) (h : Heap) (L : List Loc) : Prop := ∃ vb : Addr, ∃ kb : ClassId, v = none ∧ Fr n0 L ∧ Keep h0 h [a1] ∧ h0.size ≤ vb ∧ own_Str Z h a1 vb kb [c0, c1, c2]
set_option maxRecDepth 65536 in
set_option maxHeartbeats 40000000 in
theorem rminit1_3 (l : Launch) (Z : State) (a0 : Array Value) (hw : ∀ d ∈ tables_1, d.before a0 Z = true) (ws : List Jvm.Cond) (a1 : Addr) (a2 : Addr) (kc : ClassId) (c0 : Int32) (c1 : Int32) (c2 : Int32) (wC : Int32) (h0 : Heap) (n0 : Nat) (Z0 : n0 ≤ h0.size) (O0 : Old Z n0 h0) (qC : (own_SC Z wC)) (qU : (own_SU Z)) (E1 : Exa Z h0 a1 "java/lang/String") (F1 : Fld Z h0 a1 "java/lang/String" "value" "[B" .null) (F2 : Fld Z h0 a1 "java/lang/String" "coder" "B" (.int 0)) (g1 : n0 ≤ a1) (VC : Arv Z h0 a2 kc .char (3 : Int32) [(.int c0), (.int c1), (.int c2)] (.int 0)) :
    MetFree l own_m6 (head1 (Jvm.Cond.code own_m6 jdk_42_method_3_code 2 none :: ws) (own_r 5 2 9 74)) (fun a U => a = #[(.ref a1), (.ref a2)] ∧ Z.Warmed39 U.vm ∧ U.heap = h0) (fun _ _ _ _ _ => True) (fun _ U o U' => ∃ v L, o = .returned v ∧ Qinit1_3 Z a1 a2 kc c0 c1 c2 wC h0 n0 v U'.heap L ∧ FrameEnd U o U' L (own_r 5 2 9 74).cells (own_r 5 2 9 74).slots) := by
  refine MetFree.of_bodySF (plainFor_of_name pn_2) hisR ?_
  intro p e s m args below meth c s₁ Bd hml0 hP hK
  obtain ⟨rfl, hZ, hh⟩ := hP
  have hx := Bd.exec
  have hby := Bd.bytes
  have hml : c.maxLocals = 2 := hml0
  have hown0 := findClass_of_methodNamed Bd.named
  have hown : s.vm.findClass "java/lang/String" = some m.cls := hown0
  have hnm := (name_of_methodNamed Bd.named Bd.method).1
  have X0 : Stand p l e (own_r 5 2 9 74) s m #[(.ref a1), (.ref a2)] below meth c s₁ [] 0 0 := Stand.of_body Bd
  have e0 : s₁.heap = h0 := by rw [← hh, Bd.state]; rfl
  have N0 := Fr.nil n0
  obtain ⟨S0, hS0⟩ : ∃ z, z = s₁.setTop (entryFrame m #[(.ref a1), (.ref a2)] 2) := ⟨_, rfl⟩
  have pre0 : own_Go p e below S0 (s₁.setTop (mkF m 0 #[.val (.ref a1), .val (.ref a2)] [])) := fun t k => by rw [hS0]; exact castTop (ef_init1_3 m a1 a2) k
  have fin : ∀ t, Steps p.tables e below S0 t → Steps p.tables e below (s₁.setTop (entryFrame m #[(.ref a1), (.ref a2)] 2)) t := fun t k => by rw [hS0] at k; exact k
  have kc0 : Keep h0 h0 [a1] := Keep.refl _ _
  have pre1 : own_Go p e below S0 (s₁.setTop (mkF m 4 #[.val (.ref a1), .val (.ref a2)] [(.ref a2), (.int 0), (.ref a2), (.ref a1)])) := by
    intro t kt
    refine pre0 t ?_
    refine XS.aloadN X0.here hx rfl (hb hby d2_0) rfl rfl ?_
    refine XS.aloadN X0.here hx rfl (hb hby d2_1) rfl rfl ?_
    refine XS.iconst X0.here hx rfl (hb hby d2_2) ?_
    refine XS.aloadN X0.here hx rfl (hb hby d2_3) rfl rfl ?_
    exact kt
  obtain ⟨cl2, Ar2, -, Sz2, Ng2, -, -⟩ := id VC
  have pre3 : own_Go p e below S0 (s₁.setTop (mkF m 6 #[.val (.ref a1), .val (.ref a2)] [.null, (.int 3), (.int 0), (.ref a2), (.ref a1)])) := by
    intro t kt
    refine pre1 t ?_
    refine X0.arraylength hx (by rw [e0]; exact Ar2.1) (State.isArrayOf_alike hZ.alike Ar2.2.1) (g := (mkF m 4 #[.val (.ref a1), .val (.ref a2)] [(.ref a2), (.int 0), (.ref a2), (.ref a1)])) rfl rfl (hb hby d2_4) _ ?_
    rw [len_of Sz2 Ng2]
    show Steps p.tables e below (s₁.setTop (mkF m 5 #[.val (.ref a1), .val (.ref a2)] [(.int 3), (.int 0), (.ref a2), (.ref a1)])) _
    refine XS.aconstNull X0.here hx rfl (hb hby d2_5) ?_
    exact kt
  obtain ⟨_, _, ⟨T4, L4, k4, n4⟩, -, X4, ⟨Lc4, hQ4, l4, y4, z4⟩, st4⟩ := X0.specialBack hx (y := own_m7) rfl hown (mvT hZ (hw _ (own_w 16 rfl))) (mvT hZ (hw _ (own_w 17 rfl))) (mvT hZ (hw _ (own_w 19 rfl))) (by decide) (backOf (W := 0) (rminit4_3 l Z a0 hw [] a1 a2 kc c0 c1 c2 wC h0 n0 Z0 O0 qC qU E1 F1 F2 g1 VC) hZ (hw _ (own_w 19 rfl)) (hw _ (own_w 11 rfl)) (by decide) (by decide)) (g := (mkF m 6 #[.val (.ref a1), .val (.ref a2)] [.null, (.int 3), (.int 0), (.ref a2), (.ref a1)])) rfl (by rw [hml]; rfl) (Steps.refl _) (a := a1) (argsL := [(.ref a2), (.int 0), (.int 3), .null]) (rest := []) (lenOf pd_0 rfl) rfl (by show 2 * 0 + _ ≤ _; exact Nat.le_of_eq rfl) (hb hby d2_6) (fun _ _ => ⟨rfl, e0, (by decide : 0 + 2 ≤ _), (by decide : 0 + 9 ≤ _)⟩)
  dsimp only [Pt.U, Pt.locs, Pt.cells, Pt.slots] at X4 l4 y4 z4 st4 hQ4
  subst l4 y4 z4
  obtain ⟨vb5, kb6, rfl, Nq4, K4, g7, g8⟩ := hQ4
  have N4 := Fr.app N0 Nq4
  have ne9 : a1 ≠ vb5 := Nat.ne_of_lt (Nat.lt_of_lt_of_le E1.lt g7)
  have ne10 : a2 ≠ vb5 := Nat.ne_of_lt (Nat.lt_of_lt_of_le VC.lt g7)
  have ge11 : n0 ≤ vb5 := Nat.le_trans Z0 g7
  have sz12 : h0.size ≤ vb5 := Nat.le_trans kc0.1 g7
  have zs13 : n0 ≤ T4.heap.size := Nat.le_trans Z0 K4.1
  have kc14 : Keep h0 T4.heap [a1] := kc0.trans K4 (allS (Or.inl (List.mem_of_getElem? (i := 0) rfl)) all0)
  have pre15 : own_Go p e below S0 (T4.setTop (mkF m 9 #[.val (.ref a1), .val (.ref a2)] [])) := by
    intro t kt
    refine pre3 t ?_
    refine st4.trans ?_
    show Steps p.tables e below (T4.setTop (mkF m 9 #[.val (.ref a1), .val (.ref a2)] [])) _
    exact kt
  obtain ⟨fs, hr, hrun, hended, hW, hsame⟩ := X4.leave (v := none) (fun _ => rfl)
  refine ⟨_, _, fin _ (pre15 _ ?_), hrun, hended, _, _, rfl, ?_, ⟨_, rfl⟩, hW, hsame.mono (by decide) (by decide)⟩
  · exact X4.returnOut hx Bd.returns (hb hby d2_9) hr
  · show Qinit1_3 Z a1 a2 kc c0 c1 c2 wC h0 n0 _ T4.heap _
    exact ⟨vb5, kb6, rfl, N4, kc14, sz12, g8⟩

theorem d12_0 : decode jdk_42_method_152_code 0 = .ok (.getstatic 38, 3) := by decide +kernel
theorem d12_3 : decode jdk_42_method_152_code 3 = .ok (.ifCond .eq 10, 3) := by decide +kernel
theorem d12_6 : decode jdk_42_method_152_code 6 = .ok (.aload_n 0, 1) := by decide +kernel
theorem d12_7 : decode jdk_42_method_152_code 7 = .ok (.getfield 15, 3) := by decide +kernel
theorem d12_10 : decode jdk_42_method_152_code 10 = .ok (.goto 4, 3) := by decide +kernel
theorem d12_14 : decode jdk_42_method_152_code 14 = .ok (.ireturn, 1) := by decide +kernel
theorem pn_12 : plainName "java/lang/String" = true := by first | (simp [plainName, overriddenIn]; done) | decide +kernel
theorem ef_coder0 (m : MethodId) (x0 : Addr) : entryFrame m #[(.ref x0)] 1 = mkF m 0 #[.val (.ref x0)] [] := by first | (simp [entryFrame, mkF, argsToLocals, Value.category]; done) | rfl
def Qcoder0 (Z : State) (a1 : Addr) (wC : Int32) (h0 : Heap) (n0 : Nat) (v : Option Value) (h : Heap) (L : List Loc) : Prop := v = (some (.int 0)) ∧ Fr n0 L ∧ h = h0
set_option maxRecDepth 65536 in
set_option maxHeartbeats 40000000 in
theorem rmcoder0 (l : Launch) (Z : State) (a0 : Array Value) (hw : ∀ d ∈ tables_1, d.before a0 Z = true) (ws : List Jvm.Cond) (a1 : Addr) (wC : Int32) (h0 : Heap) (n0 : Nat) (Z0 : n0 ≤ h0.size) (O0 : Old Z n0 h0) (qC : (own_SC Z wC)) (FC : Fld Z h0 a1 "java/lang/String" "coder" "B" (.int 0)) :
    MetFree l own_m10 (head1 (Jvm.Cond.code own_m10 jdk_42_method_152_code 1 (some .byte) :: ws) (own_r 0 0 0 0)) (fun a U => a = #[(.ref a1)] ∧ Z.Warmed39 U.vm ∧ U.heap = h0) (fun _ _ _ _ _ => True) (fun _ U o U' => ∃ v L, o = .returned v ∧ Qcoder0 Z a1 wC h0 n0 v U'.heap L ∧ FrameEnd U o U' L (own_r 0 0 0 0).cells (own_r 0 0 0 0).slots) := by
  refine MetFree.of_bodySF (plainFor_of_name pn_12) hisR ?_
  intro p e s m args below meth c s₁ Bd hml0 hP hK
  obtain ⟨rfl, hZ, hh⟩ := hP
  have hx := Bd.exec
  have hby := Bd.bytes
  have hml : c.maxLocals = 1 := hml0
  have hown0 := findClass_of_methodNamed Bd.named
  have hown : s.vm.findClass "java/lang/String" = some m.cls := hown0
  have hnm := (name_of_methodNamed Bd.named Bd.method).1
  have X0 : Stand p l e (own_r 0 0 0 0) s m #[(.ref a1)] below meth c s₁ [] 0 0 := Stand.of_body Bd
  have e0 : s₁.heap = h0 := by rw [← hh, Bd.state]; rfl
  have N0 := Fr.nil n0
  obtain ⟨S0, hS0⟩ : ∃ z, z = s₁.setTop (entryFrame m #[(.ref a1)] 1) := ⟨_, rfl⟩
  have pre0 : own_Go p e below S0 (s₁.setTop (mkF m 0 #[.val (.ref a1)] [])) := fun t k => by rw [hS0]; exact castTop (ef_coder0 m a1) k
  have fin : ∀ t, Steps p.tables e below S0 t → Steps p.tables e below (s₁.setTop (entryFrame m #[(.ref a1)] 1)) t := fun t k => by rw [hS0] at k; exact k
  obtain ⟨T1, X1, e1, st1⟩ := getS2 X0 hx hZ hown (host := "") (Or.inl (hw _ (own_w 23 rfl))) Via.refl e0 (qC.1.ext O0.2) (g := (mkF m 0 #[.val (.ref a1)] [])) rfl (hb hby d12_0)
  have pre2 : own_Go p e below S0 (T1.setTop (mkF m 7 #[.val (.ref a1)] [(.ref a1)])) := by
    intro t kt
    refine pre0 t ?_
    refine st1 _ ?_
    refine XS.ifNo X1.here hx rfl (hb hby d12_3) rfl ((if0 _ _).trans (feq qC.2).1) ?_
    refine XS.aloadN X1.here hx rfl (hb hby d12_6) rfl rfl ?_
    exact kt
  obtain ⟨T3, X3, e3, st3⟩ := getF X1 hx hZ hown (host := "") (Or.inl (hw _ (own_w 35 rfl))) Via.refl e1 FC (g := (mkF m 7 #[.val (.ref a1)] [(.ref a1)])) rfl rfl (hb hby d12_7)
  have pre4 : own_Go p e below S0 (T3.setTop (mkF m 14 #[.val (.ref a1)] [(.int 0)])) := by
    intro t kt
    refine pre2 t ?_
    refine st3 _ ?_
    refine XS.goto X3.here hx rfl (pc0 := 10) (pc' := 14) rfl (hb hby d12_10) (by decide) (by decide) ?_
    exact kt
  obtain ⟨fs, hr, hrun, hended, hW, hsame⟩ := X3.leave (v := some (.int 0)) (fun h => by rw [Bd.returns] at h; cases h)
  refine ⟨_, _, fin _ (pre4 _ ?_), hrun, hended, _, _, rfl, ?_, ⟨_, rfl⟩, hW, hsame.mono (by decide) (by decide)⟩
  · exact retN X3 hx (t := .byte) Bd.returns (by simp) (hb hby d12_14) hr
  · show Qcoder0 Z a1 wC h0 n0 _ T3.heap _
    rw [e3]
    exact ⟨rfl, N0, rfl⟩

theorem ef_coder1 (m : MethodId) (x0 : Addr) : entryFrame m #[(.ref x0)] 1 = mkF m 0 #[.val (.ref x0)] [] := by first | (simp [entryFrame, mkF, argsToLocals, Value.category]; done) | rfl
def Qcoder1 (Z : State) (a1 : Addr) (wC : Int32) (h0 : Heap) (n0 : Nat) (v : Option Value) (h : Heap) (L : List Loc) : Prop := v = (some (.int 1)) ∧ Fr n0 L ∧ h = h0
set_option maxRecDepth 65536 in
set_option maxHeartbeats 40000000 in
theorem rmcoder1 (l : Launch) (Z : State) (a0 : Array Value) (hw : ∀ d ∈ tables_1, d.before a0 Z = true) (ws : List Jvm.Cond) (a1 : Addr) (wC : Int32) (h0 : Heap) (n0 : Nat) (Z0 : n0 ≤ h0.size) (O0 : Old Z n0 h0) (qC : (own_SC Z wC)) (FC : Fld Z h0 a1 "java/lang/String" "coder" "B" (.int 1)) :
    MetFree l own_m10 (head1 (Jvm.Cond.code own_m10 jdk_42_method_152_code 1 (some .byte) :: ws) (own_r 0 0 0 0)) (fun a U => a = #[(.ref a1)] ∧ Z.Warmed39 U.vm ∧ U.heap = h0) (fun _ _ _ _ _ => True) (fun _ U o U' => ∃ v L, o = .returned v ∧ Qcoder1 Z a1 wC h0 n0 v U'.heap L ∧ FrameEnd U o U' L (own_r 0 0 0 0).cells (own_r 0 0 0 0).slots) := by
  refine MetFree.of_bodySF (plainFor_of_name pn_12) hisR ?_
  intro p e s m args below meth c s₁ Bd hml0 hP hK
  obtain ⟨rfl, hZ, hh⟩ := hP
  have hx := Bd.exec
  have hby := Bd.bytes
  have hml : c.maxLocals = 1 := hml0
  have hown0 := findClass_of_methodNamed Bd.named
  have hown : s.vm.findClass "java/lang/String" = some m.cls := hown0
  have hnm := (name_of_methodNamed Bd.named Bd.method).1
  have X0 : Stand p l e (own_r 0 0 0 0) s m #[(.ref a1)] below meth c s₁ [] 0 0 := Stand.of_body Bd
  have e0 : s₁.heap = h0 := by rw [← hh, Bd.state]; rfl
  have N0 := Fr.nil n0
  obtain ⟨S0, hS0⟩ : ∃ z, z = s₁.setTop (entryFrame m #[(.ref a1)] 1) := ⟨_, rfl⟩
  have pre0 : own_Go p e below S0 (s₁.setTop (mkF m 0 #[.val (.ref a1)] [])) := fun t k => by rw [hS0]; exact castTop (ef_coder1 m a1) k
  have fin : ∀ t, Steps p.tables e below S0 t → Steps p.tables e below (s₁.setTop (entryFrame m #[(.ref a1)] 1)) t := fun t k => by rw [hS0] at k; exact k
  obtain ⟨T1, X1, e1, st1⟩ := getS2 X0 hx hZ hown (host := "") (Or.inl (hw _ (own_w 23 rfl))) Via.refl e0 (qC.1.ext O0.2) (g := (mkF m 0 #[.val (.ref a1)] [])) rfl (hb hby d12_0)
  have pre2 : own_Go p e below S0 (T1.setTop (mkF m 7 #[.val (.ref a1)] [(.ref a1)])) := by
    intro t kt
    refine pre0 t ?_
    refine st1 _ ?_
    refine XS.ifNo X1.here hx rfl (hb hby d12_3) rfl ((if0 _ _).trans (feq qC.2).1) ?_
    refine XS.aloadN X1.here hx rfl (hb hby d12_6) rfl rfl ?_
    exact kt
  obtain ⟨T3, X3, e3, st3⟩ := getF X1 hx hZ hown (host := "") (Or.inl (hw _ (own_w 35 rfl))) Via.refl e1 FC (g := (mkF m 7 #[.val (.ref a1)] [(.ref a1)])) rfl rfl (hb hby d12_7)
  have pre4 : own_Go p e below S0 (T3.setTop (mkF m 14 #[.val (.ref a1)] [(.int 1)])) := by
    intro t kt
    refine pre2 t ?_
    refine st3 _ ?_
    refine XS.goto X3.here hx rfl (pc0 := 10) (pc' := 14) rfl (hb hby d12_10) (by decide) (by decide) ?_
    exact kt
  obtain ⟨fs, hr, hrun, hended, hW, hsame⟩ := X3.leave (v := some (.int 1)) (fun h => by rw [Bd.returns] at h; cases h)
  refine ⟨_, _, fin _ (pre4 _ ?_), hrun, hended, _, _, rfl, ?_, ⟨_, rfl⟩, hW, hsame.mono (by decide) (by decide)⟩
  · exact retN X3 hx (t := .byte) Bd.returns (by simp) (hb hby d12_14) hr
  · show Qcoder1 Z a1 wC h0 n0 _ T3.heap _
    rw [e3]
    exact ⟨rfl, N0, rfl⟩

theorem d11_0 : decode jdk_42_method_54_code 0 = .ok (.aload_n 0, 1) := by decide +kernel
theorem d11_1 : decode jdk_42_method_54_code 1 = .ok (.getfield 9, 3) := by decide +kernel
theorem d11_4 : decode jdk_42_method_54_code 4 = .ok (.arraylength, 1) := by decide +kernel
theorem d11_5 : decode jdk_42_method_54_code 5 = .ok (.aload_n 0, 1) := by decide +kernel
theorem d11_6 : decode jdk_42_method_54_code 6 = .ok (.invokevirtual 335, 3) := by decide +kernel
theorem d11_9 : decode jdk_42_method_54_code 9 = .ok (.ishr, 1) := by decide +kernel
theorem d11_10 : decode jdk_42_method_54_code 10 = .ok (.ireturn, 1) := by decide +kernel
theorem pn_11 : plainName "java/lang/String" = true := by first | (simp [plainName, overriddenIn]; done) | decide +kernel
theorem pd_8 : parseMethodDescriptor "()B" = some ⟨[], some .byte⟩ := by decide +kernel
theorem ef_length (m : MethodId) (x0 : Addr) : entryFrame m #[(.ref x0)] 1 = mkF m 0 #[.val (.ref x0)] [] := by first | (simp [entryFrame, mkF, argsToLocals, Value.category]; done) | rfl
def Qlength (Z : State) (a1 : Addr) (wC : Int32) (vb : Addr) (kb : ClassId) (cs : List Int32) (h0 : Heap) (n0 : Nat) (v : Option Value) (h : Heap) (L : List Loc) : Prop := v = (some (.int (own_len cs))) ∧ Fr n0 L ∧ h = h0
set_option maxRecDepth 65536 in
set_option maxHeartbeats 40000000 in
theorem rmlength (l : Launch) (Z : State) (a0 : Array Value) (hw : ∀ d ∈ tables_1, d.before a0 Z = true) (ws : List Jvm.Cond) (a1 : Addr) (wC : Int32) (vb : Addr) (kb : ClassId) (cs : List Int32) (h0 : Heap) (n0 : Nat) (Z0 : n0 ≤ h0.size) (O0 : Old Z n0 h0) (qC : (own_SC Z wC)) (hS : own_Str Z h0 a1 vb kb cs) (hn : (cs.length < 1000)) :
    MetFree l own_m15 (head1 (Jvm.Cond.code own_m15 jdk_42_method_54_code 1 (some .int) :: ws) (own_r 1 0 0 13)) (fun a U => a = #[(.ref a1)] ∧ Z.Warmed39 U.vm ∧ U.heap = h0) (fun _ _ _ _ _ => True) (fun _ U o U' => ∃ v L, o = .returned v ∧ Qlength Z a1 wC vb kb cs h0 n0 v U'.heap L ∧ FrameEnd U o U' L (own_r 1 0 0 13).cells (own_r 1 0 0 13).slots) := by
  refine MetFree.of_bodySF (plainFor_of_name pn_11) hisR ?_
  intro p e s m args below meth c s₁ Bd hml0 hP hK
  obtain ⟨rfl, hZ, hh⟩ := hP
  have hx := Bd.exec
  have hby := Bd.bytes
  have hml : c.maxLocals = 1 := hml0
  have hown0 := findClass_of_methodNamed Bd.named
  have hown : s.vm.findClass "java/lang/String" = some m.cls := hown0
  have hnm := (name_of_methodNamed Bd.named Bd.method).1
  have X0 : Stand p l e (own_r 1 0 0 13) s m #[(.ref a1)] below meth c s₁ [] 0 0 := Stand.of_body Bd
  have e0 : s₁.heap = h0 := by rw [← hh, Bd.state]; rfl
  have N0 := Fr.nil n0
  obtain ⟨S0, hS0⟩ : ∃ z, z = s₁.setTop (entryFrame m #[(.ref a1)] 1) := ⟨_, rfl⟩
  have pre0 : own_Go p e below S0 (s₁.setTop (mkF m 0 #[.val (.ref a1)] [])) := fun t k => by rw [hS0]; exact castTop (ef_length m a1) k
  have fin : ∀ t, Steps p.tables e below S0 t → Steps p.tables e below (s₁.setTop (entryFrame m #[(.ref a1)] 1)) t := fun t k => by rw [hS0] at k; exact k
  obtain ⟨oE, oV, ⟨oK, oL, oA⟩ | ⟨oK, oL, oA⟩⟩ := hS
  · have pre1 : own_Go p e below S0 (s₁.setTop (mkF m 1 #[.val (.ref a1)] [(.ref a1)])) := by
      intro t kt
      refine pre0 t ?_
      refine XS.aloadN X0.here hx rfl (hb hby d11_0) rfl rfl ?_
      exact kt
    obtain ⟨T2, X2, e2, st2⟩ := getF X0 hx hZ hown (host := "") (Or.inl (hw _ (own_w 37 rfl))) Via.refl e0 oV (g := (mkF m 1 #[.val (.ref a1)] [(.ref a1)])) rfl rfl (hb hby d11_1)
    have pre3 : own_Go p e below S0 (T2.setTop (mkF m 4 #[.val (.ref a1)] [(.ref vb)])) := by
      intro t kt
      refine pre1 t ?_
      refine st2 _ ?_
      exact kt
    obtain ⟨cl4, Ar4, -, Sz4, Ng4, -, -⟩ := id oA
    have pre5 : own_Go p e below S0 (T2.setTop (mkF m 6 #[.val (.ref a1)] [(.ref a1), (.int (own_len cs))])) := by
      intro t kt
      refine pre3 t ?_
      refine X2.arraylength hx (by rw [e2]; exact Ar4.1) (State.isArrayOf_alike hZ.alike Ar4.2.1) (g := (mkF m 4 #[.val (.ref a1)] [(.ref vb)])) rfl rfl (hb hby d11_4) _ ?_
      rw [len_of Sz4 Ng4]
      show Steps p.tables e below (T2.setTop (mkF m 5 #[.val (.ref a1)] [(.int (own_len cs))])) _
      refine XS.aloadN X2.here hx rfl (hb hby d11_5) rfl rfl ?_
      exact kt
    obtain ⟨cq6, kq6, qa6, qb6, qc6⟩ := isOf hZ e2 oE
    obtain ⟨_, _, ⟨T6, L6, k6, n6⟩, -, X6, ⟨Lc6, hQ6, l6, y6, z6⟩, st6⟩ := X2.virtualBack hx (y := own_m10) (z := own_m10) hown (mvT hZ (hw _ (own_w 57 rfl))) (mvT hZ (hw _ (own_w 58 rfl))) (notFace_of_selects (args := #[]) (mvT hZ (hw _ (own_w 60 rfl)))) (mvT hZ (hw _ (own_w 60 rfl))) (mvT hZ (hw _ (own_w 59 rfl))) (by decide) (backOf (W := 1) (rmcoder0 l Z a0 hw [] a1 wC h0 n0 Z0 O0 qC oK) hZ (hw _ (own_w 61 rfl)) (hw _ (own_w 11 rfl)) (by decide) (by decide)) qa6 qc6 (g := (mkF m 6 #[.val (.ref a1)] [(.ref a1), (.int (own_len cs))])) rfl (by rw [hml]; rfl) (Steps.refl _) (argsL := []) (rest := [(.int (own_len cs))]) (lenOf pd_8 rfl) rfl (by show 2 * 0 + _ ≤ _; exact Nat.le_of_eq rfl) (hb hby d11_6) (fun _ _ => ⟨rfl, e2, (by decide : 0 + 0 ≤ _), (by decide : 0 + 0 ≤ _)⟩)
    dsimp only [Pt.U, Pt.locs, Pt.cells, Pt.slots] at X6 l6 y6 z6 st6 hQ6
    subst l6 y6 z6
    obtain ⟨rfl, Nq6, eq6⟩ := hQ6
    have N6 := Fr.app N0 Nq6
    have pre7 : own_Go p e below S0 (T6.setTop (mkF m 10 #[.val (.ref a1)] [(.int ((own_len cs) >>> ((0 : Int32) &&& 31)))])) := by
      intro t kt
      refine pre5 t ?_
      refine st6.trans ?_
      show Steps p.tables e below (T6.setTop (mkF m 9 #[.val (.ref a1)] [(.int 0), (.int (own_len cs))])) _
      refine XS.ishr X6.here hx rfl (hb hby d11_9) rfl ?_
      exact kt
    obtain ⟨fs, hr, hrun, hended, hW, hsame⟩ := X6.leave (v := some (.int ((own_len cs) >>> ((0 : Int32) &&& 31)))) (fun h => by rw [Bd.returns] at h; cases h)
    refine ⟨_, _, fin _ (pre7 _ ?_), hrun, hended, _, _, rfl, ?_, ⟨_, rfl⟩, hW, hsame.mono (by decide) (by decide)⟩
    · exact retI X6 hx Bd.returns (hb hby d11_10) hr
    · show Qlength Z a1 wC vb kb cs h0 n0 _ T6.heap _
      rw [eq6]
      exact ⟨(congrArg (fun q => some (Value.int q)) (own_lenL cs)), N6, rfl⟩
  · have pre8 : own_Go p e below S0 (s₁.setTop (mkF m 1 #[.val (.ref a1)] [(.ref a1)])) := by
      intro t kt
      refine pre0 t ?_
      refine XS.aloadN X0.here hx rfl (hb hby d11_0) rfl rfl ?_
      exact kt
    obtain ⟨T9, X9, e9, st9⟩ := getF X0 hx hZ hown (host := "") (Or.inl (hw _ (own_w 37 rfl))) Via.refl e0 oV (g := (mkF m 1 #[.val (.ref a1)] [(.ref a1)])) rfl rfl (hb hby d11_1)
    have pre10 : own_Go p e below S0 (T9.setTop (mkF m 4 #[.val (.ref a1)] [(.ref vb)])) := by
      intro t kt
      refine pre8 t ?_
      refine st9 _ ?_
      exact kt
    obtain ⟨cl11, Ar11, -, Sz11, Ng11, -, -⟩ := id oA
    have pre12 : own_Go p e below S0 (T9.setTop (mkF m 6 #[.val (.ref a1)] [(.ref a1), (.int (own_len2 cs))])) := by
      intro t kt
      refine pre10 t ?_
      refine X9.arraylength hx (by rw [e9]; exact Ar11.1) (State.isArrayOf_alike hZ.alike Ar11.2.1) (g := (mkF m 4 #[.val (.ref a1)] [(.ref vb)])) rfl rfl (hb hby d11_4) _ ?_
      rw [len_of Sz11 Ng11]
      show Steps p.tables e below (T9.setTop (mkF m 5 #[.val (.ref a1)] [(.int (own_len2 cs))])) _
      refine XS.aloadN X9.here hx rfl (hb hby d11_5) rfl rfl ?_
      exact kt
    obtain ⟨cq13, kq13, qa13, qb13, qc13⟩ := isOf hZ e9 oE
    obtain ⟨_, _, ⟨T13, L13, k13, n13⟩, -, X13, ⟨Lc13, hQ13, l13, y13, z13⟩, st13⟩ := X9.virtualBack hx (y := own_m10) (z := own_m10) hown (mvT hZ (hw _ (own_w 57 rfl))) (mvT hZ (hw _ (own_w 58 rfl))) (notFace_of_selects (args := #[]) (mvT hZ (hw _ (own_w 60 rfl)))) (mvT hZ (hw _ (own_w 60 rfl))) (mvT hZ (hw _ (own_w 59 rfl))) (by decide) (backOf (W := 1) (rmcoder1 l Z a0 hw [] a1 wC h0 n0 Z0 O0 qC oK) hZ (hw _ (own_w 61 rfl)) (hw _ (own_w 11 rfl)) (by decide) (by decide)) qa13 qc13 (g := (mkF m 6 #[.val (.ref a1)] [(.ref a1), (.int (own_len2 cs))])) rfl (by rw [hml]; rfl) (Steps.refl _) (argsL := []) (rest := [(.int (own_len2 cs))]) (lenOf pd_8 rfl) rfl (by show 2 * 0 + _ ≤ _; exact Nat.le_of_eq rfl) (hb hby d11_6) (fun _ _ => ⟨rfl, e9, (by decide : 0 + 0 ≤ _), (by decide : 0 + 0 ≤ _)⟩)
    dsimp only [Pt.U, Pt.locs, Pt.cells, Pt.slots] at X13 l13 y13 z13 st13 hQ13
    subst l13 y13 z13
    obtain ⟨rfl, Nq13, eq13⟩ := hQ13
    have N13 := Fr.app N0 Nq13
    have pre14 : own_Go p e below S0 (T13.setTop (mkF m 10 #[.val (.ref a1)] [(.int ((own_len2 cs) >>> ((1 : Int32) &&& 31)))])) := by
      intro t kt
      refine pre12 t ?_
      refine st13.trans ?_
      show Steps p.tables e below (T13.setTop (mkF m 9 #[.val (.ref a1)] [(.int 1), (.int (own_len2 cs))])) _
      refine XS.ishr X13.here hx rfl (hb hby d11_9) rfl ?_
      exact kt
    obtain ⟨fs, hr, hrun, hended, hW, hsame⟩ := X13.leave (v := some (.int ((own_len2 cs) >>> ((1 : Int32) &&& 31)))) (fun h => by rw [Bd.returns] at h; cases h)
    refine ⟨_, _, fin _ (pre14 _ ?_), hrun, hended, _, _, rfl, ?_, ⟨_, rfl⟩, hW, hsame.mono (by decide) (by decide)⟩
    · exact retI X13 hx Bd.returns (hb hby d11_10) hr
    · show Qlength Z a1 wC vb kb cs h0 n0 _ T13.heap _
      rw [eq13]
      exact ⟨(congrArg (fun q => some (Value.int q)) (own_lenU cs hn)), N13, rfl⟩

theorem d14_0 : decode jdk_42_method_154_code 0 = .ok (.getstatic 38, 3) := by decide +kernel
theorem d14_3 : decode jdk_42_method_154_code 3 = .ok (.ifCond .eq 14, 3) := by decide +kernel
theorem d14_6 : decode jdk_42_method_154_code 6 = .ok (.aload_n 0, 1) := by decide +kernel
theorem d14_7 : decode jdk_42_method_154_code 7 = .ok (.getfield 15, 3) := by decide +kernel
theorem d14_10 : decode jdk_42_method_154_code 10 = .ok (.ifCond .ne 7, 3) := by decide +kernel
theorem d14_13 : decode jdk_42_method_154_code 13 = .ok (.iconst 1, 1) := by decide +kernel
theorem d14_14 : decode jdk_42_method_154_code 14 = .ok (.goto 4, 3) := by decide +kernel
theorem d14_18 : decode jdk_42_method_154_code 18 = .ok (.ireturn, 1) := by decide +kernel
theorem pn_14 : plainName "java/lang/String" = true := by first | (simp [plainName, overriddenIn]; done) | decide +kernel
theorem ef_isLat0 (m : MethodId) (x0 : Addr) : entryFrame m #[(.ref x0)] 1 = mkF m 0 #[.val (.ref x0)] [] := by first | (simp [entryFrame, mkF, argsToLocals, Value.category]; done) | rfl
def QisLat0 (Z : State) (a1 : Addr) (wC : Int32) (h0 : Heap) (n0 : Nat) (v : Option Value) (h : Heap) (L : List Loc) : Prop := v = (some (.int 1)) ∧ Fr n0 L ∧ h = h0
set_option maxRecDepth 65536 in
set_option maxHeartbeats 40000000 in
theorem rmisLat0 (l : Launch) (Z : State) (a0 : Array Value) (hw : ∀ d ∈ tables_1, d.before a0 Z = true) (ws : List Jvm.Cond) (a1 : Addr) (wC : Int32) (h0 : Heap) (n0 : Nat) (Z0 : n0 ≤ h0.size) (O0 : Old Z n0 h0) (qC : (own_SC Z wC)) (FC : Fld Z h0 a1 "java/lang/String" "coder" "B" (.int 0)) :
    MetFree l own_m14 (head1 (Jvm.Cond.code own_m14 jdk_42_method_154_code 1 (some .boolean) :: ws) (own_r 0 0 0 0)) (fun a U => a = #[(.ref a1)] ∧ Z.Warmed39 U.vm ∧ U.heap = h0) (fun _ _ _ _ _ => True) (fun _ U o U' => ∃ v L, o = .returned v ∧ QisLat0 Z a1 wC h0 n0 v U'.heap L ∧ FrameEnd U o U' L (own_r 0 0 0 0).cells (own_r 0 0 0 0).slots) := by
  refine MetFree.of_bodySF (plainFor_of_name pn_14) hisR ?_
  intro p e s m args below meth c s₁ Bd hml0 hP hK
  obtain ⟨rfl, hZ, hh⟩ := hP
  have hx := Bd.exec
  have hby := Bd.bytes
  have hml : c.maxLocals = 1 := hml0
  have hown0 := findClass_of_methodNamed Bd.named
  have hown : s.vm.findClass "java/lang/String" = some m.cls := hown0
  have hnm := (name_of_methodNamed Bd.named Bd.method).1
  have X0 : Stand p l e (own_r 0 0 0 0) s m #[(.ref a1)] below meth c s₁ [] 0 0 := Stand.of_body Bd
  have e0 : s₁.heap = h0 := by rw [← hh, Bd.state]; rfl
  have N0 := Fr.nil n0
  obtain ⟨S0, hS0⟩ : ∃ z, z = s₁.setTop (entryFrame m #[(.ref a1)] 1) := ⟨_, rfl⟩
  have pre0 : own_Go p e below S0 (s₁.setTop (mkF m 0 #[.val (.ref a1)] [])) := fun t k => by rw [hS0]; exact castTop (ef_isLat0 m a1) k
  have fin : ∀ t, Steps p.tables e below S0 t → Steps p.tables e below (s₁.setTop (entryFrame m #[(.ref a1)] 1)) t := fun t k => by rw [hS0] at k; exact k
  obtain ⟨T1, X1, e1, st1⟩ := getS2 X0 hx hZ hown (host := "") (Or.inl (hw _ (own_w 23 rfl))) Via.refl e0 (qC.1.ext O0.2) (g := (mkF m 0 #[.val (.ref a1)] [])) rfl (hb hby d14_0)
  have pre2 : own_Go p e below S0 (T1.setTop (mkF m 7 #[.val (.ref a1)] [(.ref a1)])) := by
    intro t kt
    refine pre0 t ?_
    refine st1 _ ?_
    refine XS.ifNo X1.here hx rfl (hb hby d14_3) rfl ((if0 _ _).trans (feq qC.2).1) ?_
    refine XS.aloadN X1.here hx rfl (hb hby d14_6) rfl rfl ?_
    exact kt
  obtain ⟨T3, X3, e3, st3⟩ := getF X1 hx hZ hown (host := "") (Or.inl (hw _ (own_w 35 rfl))) Via.refl e1 FC (g := (mkF m 7 #[.val (.ref a1)] [(.ref a1)])) rfl rfl (hb hby d14_7)
  have pre4 : own_Go p e below S0 (T3.setTop (mkF m 18 #[.val (.ref a1)] [(.int 1)])) := by
    intro t kt
    refine pre2 t ?_
    refine st3 _ ?_
    refine XS.ifNo X3.here hx rfl (hb hby d14_10) rfl ((if0 _ _).trans (teq (by decide : (0 : Int32) = (0 : Int32))).2) ?_
    refine XS.iconst X3.here hx rfl (hb hby d14_13) ?_
    refine XS.goto X3.here hx rfl (pc0 := 14) (pc' := 18) rfl (hb hby d14_14) (by decide) (by decide) ?_
    exact kt
  obtain ⟨fs, hr, hrun, hended, hW, hsame⟩ := X3.leave (v := some (.int 1)) (fun h => by rw [Bd.returns] at h; cases h)
  refine ⟨_, _, fin _ (pre4 _ ?_), hrun, hended, _, _, rfl, ?_, ⟨_, rfl⟩, hW, hsame.mono (by decide) (by decide)⟩
  · exact retN X3 hx (t := .boolean) Bd.returns (by simp) (hb hby d14_18) hr
  · show QisLat0 Z a1 wC h0 n0 _ T3.heap _
    rw [e3]
    exact ⟨rfl, N0, rfl⟩

theorem d14_17 : decode jdk_42_method_154_code 17 = .ok (.iconst 0, 1) := by decide +kernel
theorem ef_isLat1 (m : MethodId) (x0 : Addr) : entryFrame m #[(.ref x0)] 1 = mkF m 0 #[.val (.ref x0)] [] := by first | (simp [entryFrame, mkF, argsToLocals, Value.category]; done) | rfl
def QisLat1 (Z : State) (a1 : Addr) (wC : Int32) (h0 : Heap) (n0 : Nat) (v : Option Value) (h : Heap) (L : List Loc) : Prop := v = (some (.int 0)) ∧ Fr n0 L ∧ h = h0
set_option maxRecDepth 65536 in
set_option maxHeartbeats 40000000 in
theorem rmisLat1 (l : Launch) (Z : State) (a0 : Array Value) (hw : ∀ d ∈ tables_1, d.before a0 Z = true) (ws : List Jvm.Cond) (a1 : Addr) (wC : Int32) (h0 : Heap) (n0 : Nat) (Z0 : n0 ≤ h0.size) (O0 : Old Z n0 h0) (qC : (own_SC Z wC)) (FC : Fld Z h0 a1 "java/lang/String" "coder" "B" (.int 1)) :
    MetFree l own_m14 (head1 (Jvm.Cond.code own_m14 jdk_42_method_154_code 1 (some .boolean) :: ws) (own_r 0 0 0 0)) (fun a U => a = #[(.ref a1)] ∧ Z.Warmed39 U.vm ∧ U.heap = h0) (fun _ _ _ _ _ => True) (fun _ U o U' => ∃ v L, o = .returned v ∧ QisLat1 Z a1 wC h0 n0 v U'.heap L ∧ FrameEnd U o U' L (own_r 0 0 0 0).cells (own_r 0 0 0 0).slots) := by
  refine MetFree.of_bodySF (plainFor_of_name pn_14) hisR ?_
  intro p e s m args below meth c s₁ Bd hml0 hP hK
  obtain ⟨rfl, hZ, hh⟩ := hP
  have hx := Bd.exec
  have hby := Bd.bytes
  have hml : c.maxLocals = 1 := hml0
  have hown0 := findClass_of_methodNamed Bd.named
  have hown : s.vm.findClass "java/lang/String" = some m.cls := hown0
  have hnm := (name_of_methodNamed Bd.named Bd.method).1
  have X0 : Stand p l e (own_r 0 0 0 0) s m #[(.ref a1)] below meth c s₁ [] 0 0 := Stand.of_body Bd
  have e0 : s₁.heap = h0 := by rw [← hh, Bd.state]; rfl
  have N0 := Fr.nil n0
  obtain ⟨S0, hS0⟩ : ∃ z, z = s₁.setTop (entryFrame m #[(.ref a1)] 1) := ⟨_, rfl⟩
  have pre0 : own_Go p e below S0 (s₁.setTop (mkF m 0 #[.val (.ref a1)] [])) := fun t k => by rw [hS0]; exact castTop (ef_isLat1 m a1) k
  have fin : ∀ t, Steps p.tables e below S0 t → Steps p.tables e below (s₁.setTop (entryFrame m #[(.ref a1)] 1)) t := fun t k => by rw [hS0] at k; exact k
  obtain ⟨T1, X1, e1, st1⟩ := getS2 X0 hx hZ hown (host := "") (Or.inl (hw _ (own_w 23 rfl))) Via.refl e0 (qC.1.ext O0.2) (g := (mkF m 0 #[.val (.ref a1)] [])) rfl (hb hby d14_0)
  have pre2 : own_Go p e below S0 (T1.setTop (mkF m 7 #[.val (.ref a1)] [(.ref a1)])) := by
    intro t kt
    refine pre0 t ?_
    refine st1 _ ?_
    refine XS.ifNo X1.here hx rfl (hb hby d14_3) rfl ((if0 _ _).trans (feq qC.2).1) ?_
    refine XS.aloadN X1.here hx rfl (hb hby d14_6) rfl rfl ?_
    exact kt
  obtain ⟨T3, X3, e3, st3⟩ := getF X1 hx hZ hown (host := "") (Or.inl (hw _ (own_w 35 rfl))) Via.refl e1 FC (g := (mkF m 7 #[.val (.ref a1)] [(.ref a1)])) rfl rfl (hb hby d14_7)
  have pre4 : own_Go p e below S0 (T3.setTop (mkF m 18 #[.val (.ref a1)] [(.int 0)])) := by
    intro t kt
    refine pre2 t ?_
    refine st3 _ ?_
    refine XS.ifYes X3.here hx rfl (pc0 := 10) (pc' := 17) rfl (hb hby d14_10) rfl ((if0 _ _).trans (feq (by decide : ¬ ((1 : Int32) = (0 : Int32)))).2) (by decide) (by decide) ?_
    refine XS.iconst X3.here hx rfl (hb hby d14_17) ?_
    exact kt
  obtain ⟨fs, hr, hrun, hended, hW, hsame⟩ := X3.leave (v := some (.int 0)) (fun h => by rw [Bd.returns] at h; cases h)
  refine ⟨_, _, fin _ (pre4 _ ?_), hrun, hended, _, _, rfl, ?_, ⟨_, rfl⟩, hW, hsame.mono (by decide) (by decide)⟩
  · exact retN X3 hx (t := .boolean) Bd.returns (by simp) (hb hby d14_18) hr
  · show QisLat1 Z a1 wC h0 n0 _ T3.heap _
    rw [e3]
    exact ⟨rfl, N0, rfl⟩

theorem d17_0 : decode jdk_41_method_11_code 0 = .ok (.iload_n 0, 1) := by decide +kernel
theorem d17_1 : decode jdk_41_method_11_code 1 = .ok (.ifCond .lt 8, 3) := by decide +kernel
theorem d17_4 : decode jdk_41_method_11_code 4 = .ok (.iload_n 0, 1) := by decide +kernel
theorem d17_5 : decode jdk_41_method_11_code 5 = .ok (.iload_n 1, 1) := by decide +kernel
theorem d17_6 : decode jdk_41_method_11_code 6 = .ok (.if_icmp .lt 10, 3) := by decide +kernel
theorem d17_16 : decode jdk_41_method_11_code 16 = .ok (.iload_n 0, 1) := by decide +kernel
theorem d17_17 : decode jdk_41_method_11_code 17 = .ok (.ireturn, 1) := by decide +kernel
theorem pn_17 : plainName "jdk/internal/util/Preconditions" = true := by first | (simp [plainName, overriddenIn]; done) | decide +kernel
theorem ef_pck_n (m : MethodId) (x0 : Int32) (x1 : Int32) : entryFrame m #[(.int x0), (.int x1), .null] 3 = mkF m 0 #[.val (.int x0), .val (.int x1), .val .null] [] := by first | (simp [entryFrame, mkF, argsToLocals, Value.category]; done) | rfl
def Qpck_n (Z : State) (p1 : Int32) (p2 : Int32) (h0 : Heap) (n0 : Nat) (v : Option Value) (h : Heap) (L : List Loc) : Prop := v = (some (.int p1)) ∧ Fr n0 L ∧ h = h0
set_option maxRecDepth 65536 in
set_option maxHeartbeats 40000000 in
theorem rmpck_n (l : Launch) (Z : State) (a0 : Array Value) (hw : ∀ d ∈ tables_1, d.before a0 Z = true) (ws : List Jvm.Cond) (p1 : Int32) (p2 : Int32) (h0 : Heap) (n0 : Nat) (Z0 : n0 ≤ h0.size) (h1 : (¬ p1 < (0 : Int32))) (h2 : (p1 < p2)) :
    MetFree l own_m31 (head1 (Jvm.Cond.code own_m31 jdk_41_method_11_code 3 (some .int) :: ws) (own_r 0 0 0 0)) (fun a U => a = #[(.int p1), (.int p2), .null] ∧ Z.Warmed39 U.vm ∧ U.heap = h0) (fun _ _ _ _ _ => True) (fun _ U o U' => ∃ v L, o = .returned v ∧ Qpck_n Z p1 p2 h0 n0 v U'.heap L ∧ FrameEnd U o U' L (own_r 0 0 0 0).cells (own_r 0 0 0 0).slots) := by
  refine MetFree.of_bodySF (plainFor_of_name pn_17) hisR ?_
  intro p e s m args below meth c s₁ Bd hml0 hP hK
  obtain ⟨rfl, hZ, hh⟩ := hP
  have hx := Bd.exec
  have hby := Bd.bytes
  have hml : c.maxLocals = 3 := hml0
  have hown0 := findClass_of_methodNamed Bd.named
  have hown : s.vm.findClass "jdk/internal/util/Preconditions" = some m.cls := hown0
  have hnm := (name_of_methodNamed Bd.named Bd.method).1
  have X0 : Stand p l e (own_r 0 0 0 0) s m #[(.int p1), (.int p2), .null] below meth c s₁ [] 0 0 := Stand.of_body Bd
  have e0 : s₁.heap = h0 := by rw [← hh, Bd.state]; rfl
  have N0 := Fr.nil n0
  obtain ⟨S0, hS0⟩ : ∃ z, z = s₁.setTop (entryFrame m #[(.int p1), (.int p2), .null] 3) := ⟨_, rfl⟩
  have pre0 : own_Go p e below S0 (s₁.setTop (mkF m 0 #[.val (.int p1), .val (.int p2), .val .null] [])) := fun t k => by rw [hS0]; exact castTop (ef_pck_n m p1 p2) k
  have fin : ∀ t, Steps p.tables e below S0 t → Steps p.tables e below (s₁.setTop (entryFrame m #[(.int p1), (.int p2), .null] 3)) t := fun t k => by rw [hS0] at k; exact k
  have pre1 : own_Go p e below S0 (s₁.setTop (mkF m 17 #[.val (.int p1), .val (.int p2), .val .null] [(.int p1)])) := by
    intro t kt
    refine pre0 t ?_
    refine XS.iloadN X0.here hx rfl (hb hby d17_0) rfl ?_
    refine XS.ifNo X0.here hx rfl (hb hby d17_1) rfl ((if0 _ _).trans (flt h1).1) ?_
    refine XS.iloadN X0.here hx rfl (hb hby d17_4) rfl ?_
    refine XS.iloadN X0.here hx rfl (hb hby d17_5) rfl ?_
    refine XS.icmpYes X0.here hx rfl (pc0 := 6) (pc' := 16) rfl (hb hby d17_6) rfl (tlt h2).1 (by decide) (by decide) ?_
    refine XS.iloadN X0.here hx rfl (hb hby d17_16) rfl ?_
    show Steps p.tables e below (s₁.setTop (mkF m 17 #[.val (.int p1), .val (.int p2), .val .null] [(.int p1)])) _
    exact kt
  obtain ⟨fs, hr, hrun, hended, hW, hsame⟩ := X0.leave (v := some (.int p1)) (fun h => by rw [Bd.returns] at h; cases h)
  refine ⟨_, _, fin _ (pre1 _ ?_), hrun, hended, _, _, rfl, ?_, ⟨_, rfl⟩, hW, hsame.mono (by decide) (by decide)⟩
  · exact retI X0 hx Bd.returns (hb hby d17_17) hr
  · show Qpck_n Z p1 p2 h0 n0 _ s₁.heap _
    rw [e0]
    exact ⟨rfl, N0, rfl⟩

theorem ef_pck_r (m : MethodId) (x0 : Int32) (x1 : Int32) (x2 : Addr) : entryFrame m #[(.int x0), (.int x1), (.ref x2)] 3 = mkF m 0 #[.val (.int x0), .val (.int x1), .val (.ref x2)] [] := by first | (simp [entryFrame, mkF, argsToLocals, Value.category]; done) | rfl
def Qpck_r (Z : State) (p1 : Int32) (p2 : Int32) (a3 : Addr) (h0 : Heap) (n0 : Nat) (v : Option Value) (h : Heap) (L : List Loc) : Prop := v = (some (.int p1)) ∧ Fr n0 L ∧ h = h0
set_option maxRecDepth 65536 in
set_option maxHeartbeats 40000000 in
theorem rmpck_r (l : Launch) (Z : State) (a0 : Array Value) (hw : ∀ d ∈ tables_1, d.before a0 Z = true) (ws : List Jvm.Cond) (p1 : Int32) (p2 : Int32) (a3 : Addr) (h0 : Heap) (n0 : Nat) (Z0 : n0 ≤ h0.size) (h1 : (¬ p1 < (0 : Int32))) (h2 : (p1 < p2)) :
    MetFree l own_m31 (head1 (Jvm.Cond.code own_m31 jdk_41_method_11_code 3 (some .int) :: ws) (own_r 0 0 0 0)) (fun a U => a = #[(.int p1), (.int p2), (.ref a3)] ∧ Z.Warmed39 U.vm ∧ U.heap = h0) (fun _ _ _ _ _ => True) (fun _ U o U' => ∃ v L, o = .returned v ∧ Qpck_r Z p1 p2 a3 h0 n0 v U'.heap L ∧ FrameEnd U o U' L (own_r 0 0 0 0).cells (own_r 0 0 0 0).slots) := by
  refine MetFree.of_bodySF (plainFor_of_name pn_17) hisR ?_
  intro p e s m args below meth c s₁ Bd hml0 hP hK
  obtain ⟨rfl, hZ, hh⟩ := hP
  have hx := Bd.exec
  have hby := Bd.bytes
  have hml : c.maxLocals = 3 := hml0
  have hown0 := findClass_of_methodNamed Bd.named
  have hown : s.vm.findClass "jdk/internal/util/Preconditions" = some m.cls := hown0
  have hnm := (name_of_methodNamed Bd.named Bd.method).1
  have X0 : Stand p l e (own_r 0 0 0 0) s m #[(.int p1), (.int p2), (.ref a3)] below meth c s₁ [] 0 0 := Stand.of_body Bd
  have e0 : s₁.heap = h0 := by rw [← hh, Bd.state]; rfl
  have N0 := Fr.nil n0
  obtain ⟨S0, hS0⟩ : ∃ z, z = s₁.setTop (entryFrame m #[(.int p1), (.int p2), (.ref a3)] 3) := ⟨_, rfl⟩
  have pre0 : own_Go p e below S0 (s₁.setTop (mkF m 0 #[.val (.int p1), .val (.int p2), .val (.ref a3)] [])) := fun t k => by rw [hS0]; exact castTop (ef_pck_r m p1 p2 a3) k
  have fin : ∀ t, Steps p.tables e below S0 t → Steps p.tables e below (s₁.setTop (entryFrame m #[(.int p1), (.int p2), (.ref a3)] 3)) t := fun t k => by rw [hS0] at k; exact k
  have pre1 : own_Go p e below S0 (s₁.setTop (mkF m 17 #[.val (.int p1), .val (.int p2), .val (.ref a3)] [(.int p1)])) := by
    intro t kt
    refine pre0 t ?_
    refine XS.iloadN X0.here hx rfl (hb hby d17_0) rfl ?_
    refine XS.ifNo X0.here hx rfl (hb hby d17_1) rfl ((if0 _ _).trans (flt h1).1) ?_
    refine XS.iloadN X0.here hx rfl (hb hby d17_4) rfl ?_
    refine XS.iloadN X0.here hx rfl (hb hby d17_5) rfl ?_
    refine XS.icmpYes X0.here hx rfl (pc0 := 6) (pc' := 16) rfl (hb hby d17_6) rfl (tlt h2).1 (by decide) (by decide) ?_
    refine XS.iloadN X0.here hx rfl (hb hby d17_16) rfl ?_
    show Steps p.tables e below (s₁.setTop (mkF m 17 #[.val (.int p1), .val (.int p2), .val (.ref a3)] [(.int p1)])) _
    exact kt
  obtain ⟨fs, hr, hrun, hended, hW, hsame⟩ := X0.leave (v := some (.int p1)) (fun h => by rw [Bd.returns] at h; cases h)
  refine ⟨_, _, fin _ (pre1 _ ?_), hrun, hended, _, _, rfl, ?_, ⟨_, rfl⟩, hW, hsame.mono (by decide) (by decide)⟩
  · exact retI X0 hx Bd.returns (hb hby d17_17) hr
  · show Qpck_r Z p1 p2 a3 h0 n0 _ s₁.heap _
    rw [e0]
    exact ⟨rfl, N0, rfl⟩

theorem d16_0 : decode jdk_42_method_155_code 0 = .ok (.iload_n 0, 1) := by decide +kernel
theorem d16_1 : decode jdk_42_method_155_code 1 = .ok (.iload_n 1, 1) := by decide +kernel
theorem d16_2 : decode jdk_42_method_155_code 2 = .ok (.getstatic 1053, 3) := by decide +kernel
theorem d16_5 : decode jdk_42_method_155_code 5 = .ok (.invokestatic 1059, 3) := by decide +kernel
theorem d16_8 : decode jdk_42_method_155_code 8 = .ok (.pop, 1) := by decide +kernel
theorem d16_9 : decode jdk_42_method_155_code 9 = .ok (.return_, 1) := by decide +kernel
theorem pn_16 : plainName "java/lang/String" = true := by first | (simp [plainName, overriddenIn]; done) | decide +kernel
theorem pd_9 : parseMethodDescriptor "(IILjava/util/function/BiFunction;)I" = some ⟨[.int, .int, (.object "java/util/function/BiFunction")], some .int⟩ := by decide +kernel
theorem ef_sck (m : MethodId) (x0 : Int32) (x1 : Int32) : entryFrame m #[(.int x0), (.int x1)] 2 = mkF m 0 #[.val (.int x0), .val (.int x1)] [] := by first | (simp [entryFrame, mkF, argsToLocals, Value.category]; done) | rfl
def Qsck (Z : State) (p1 : Int32) (p2 : Int32) (wF : Value) (h0 : Heap) (n0 : Nat) (v : Option Value) (h : Heap) (L : List Loc) : Prop := v = none ∧ Fr n0 L ∧ h = h0
set_option maxRecDepth 65536 in
set_option maxHeartbeats 40000000 in
theorem rmsck (l : Launch) (Z : State) (a0 : Array Value) (hw : ∀ d ∈ tables_1, d.before a0 Z = true) (ws : List Jvm.Cond) (p1 : Int32) (p2 : Int32) (wF : Value) (h0 : Heap) (n0 : Nat) (Z0 : n0 ≤ h0.size) (O0 : Old Z n0 h0) (qF : (own_SF Z wF)) (h1 : (¬ p1 < (0 : Int32))) (h2 : (p1 < p2)) :
    MetFree l own_m9 (head1 (Jvm.Cond.code own_m9 jdk_42_method_155_code 2 none :: ws) (own_r 1 0 0 14)) (fun a U => a = #[(.int p1), (.int p2)] ∧ Z.Warmed39 U.vm ∧ U.heap = h0) (fun _ _ _ _ _ => True) (fun _ U o U' => ∃ v L, o = .returned v ∧ Qsck Z p1 p2 wF h0 n0 v U'.heap L ∧ FrameEnd U o U' L (own_r 1 0 0 14).cells (own_r 1 0 0 14).slots) := by
  refine MetFree.of_bodySF (plainFor_of_name pn_16) hisR ?_
  intro p e s m args below meth c s₁ Bd hml0 hP hK
  obtain ⟨rfl, hZ, hh⟩ := hP
  have hx := Bd.exec
  have hby := Bd.bytes
  have hml : c.maxLocals = 2 := hml0
  have hown0 := findClass_of_methodNamed Bd.named
  have hown : s.vm.findClass "java/lang/String" = some m.cls := hown0
  have hnm := (name_of_methodNamed Bd.named Bd.method).1
  have X0 : Stand p l e (own_r 1 0 0 14) s m #[(.int p1), (.int p2)] below meth c s₁ [] 0 0 := Stand.of_body Bd
  have e0 : s₁.heap = h0 := by rw [← hh, Bd.state]; rfl
  have N0 := Fr.nil n0
  obtain ⟨S0, hS0⟩ : ∃ z, z = s₁.setTop (entryFrame m #[(.int p1), (.int p2)] 2) := ⟨_, rfl⟩
  have pre0 : own_Go p e below S0 (s₁.setTop (mkF m 0 #[.val (.int p1), .val (.int p2)] [])) := fun t k => by rw [hS0]; exact castTop (ef_sck m p1 p2) k
  have fin : ∀ t, Steps p.tables e below S0 t → Steps p.tables e below (s₁.setTop (entryFrame m #[(.int p1), (.int p2)] 2)) t := fun t k => by rw [hS0] at k; exact k
  have pre1 : own_Go p e below S0 (s₁.setTop (mkF m 2 #[.val (.int p1), .val (.int p2)] [(.int p2), (.int p1)])) := by
    intro t kt
    refine pre0 t ?_
    refine XS.iloadN X0.here hx rfl (hb hby d16_0) rfl ?_
    refine XS.iloadN X0.here hx rfl (hb hby d16_1) rfl ?_
    exact kt
  obtain ⟨T2, X2, e2, st2⟩ := getS2 X0 hx hZ hown (host := "") (Or.inl (hw _ (own_w 79 rfl))) Via.refl e0 (qF.1.ext O0.2) (g := (mkF m 2 #[.val (.int p1), .val (.int p2)] [(.int p2), (.int p1)])) rfl (hb hby d16_2)
  have pre3 : own_Go p e below S0 (T2.setTop (mkF m 5 #[.val (.int p1), .val (.int p2)] [wF, (.int p2), (.int p1)])) := by
    intro t kt
    refine pre1 t ?_
    refine st2 _ ?_
    exact kt
  obtain hwF | ⟨aF, hwF⟩ := ref_cases qF.2
  · have pre4 : own_Go p e below S0 (T2.setTop (mkF m 5 #[.val (.int p1), .val (.int p2)] [.null, (.int p2), (.int p1)])) := by
      intro t kt
      refine pre3 t ?_
      rw [hwF]
      exact kt
    obtain ⟨_, _, ⟨T5, L5, k5, n5⟩, -, X5, ⟨Lc5, hQ5, l5, y5, z5⟩, st5⟩ := Jvm.LawKit.callS X2 hx (y := own_m31) hown (mvT hZ (hw _ (own_w 81 rfl))) (mvT hZ (hw _ (own_w 82 rfl))) (mvT hZ (hw _ (own_w 80 rfl))) (mvT hZ (hw _ (own_w 83 rfl))) (by decide) (backOf (W := 0) (rmpck_n l Z a0 hw [] p1 p2 h0 n0 Z0 h1 h2) hZ (hw _ (own_w 83 rfl)) (hw _ (own_w 80 rfl)) (by decide) (by decide)) (g := (mkF m 5 #[.val (.int p1), .val (.int p2)] [.null, (.int p2), (.int p1)])) rfl (by rw [hml]; rfl) (argsL := [(.int p1), (.int p2), .null]) (rest := []) (lenOf pd_9 rfl) rfl (by show 2 * 0 + _ ≤ _; exact Nat.le_of_eq rfl) (hb hby d16_5) (fun _ _ => ⟨rfl, e2, (by decide : 0 + 0 ≤ _), (by decide : 0 + 0 ≤ _)⟩)
    dsimp only [Pt.U, Pt.locs, Pt.cells, Pt.slots] at X5 l5 y5 z5 st5 hQ5
    subst l5 y5 z5
    obtain ⟨rfl, Nq5, eq5⟩ := hQ5
    have N5 := Fr.app N0 Nq5
    have pre6 : own_Go p e below S0 (T5.setTop (mkF m 9 #[.val (.int p1), .val (.int p2)] [])) := by
      intro t kt
      refine pre4 t ?_
      refine st5 _ ?_
      show Steps p.tables e below (T5.setTop (mkF m 8 #[.val (.int p1), .val (.int p2)] [(.int p1)])) _
      refine XS.pop X5.here hx rfl (hb hby d16_8) rfl rfl ?_
      exact kt
    obtain ⟨fs, hr, hrun, hended, hW, hsame⟩ := X5.leave (v := none) (fun _ => rfl)
    refine ⟨_, _, fin _ (pre6 _ ?_), hrun, hended, _, _, rfl, ?_, ⟨_, rfl⟩, hW, hsame.mono (by decide) (by decide)⟩
    · exact X5.returnOut hx Bd.returns (hb hby d16_9) hr
    · show Qsck Z p1 p2 wF h0 n0 _ T5.heap _
      rw [eq5]
      exact ⟨rfl, N5, rfl⟩
  · have pre7 : own_Go p e below S0 (T2.setTop (mkF m 5 #[.val (.int p1), .val (.int p2)] [(.ref aF), (.int p2), (.int p1)])) := by
      intro t kt
      refine pre3 t ?_
      rw [hwF]
      exact kt
    obtain ⟨_, _, ⟨T8, L8, k8, n8⟩, -, X8, ⟨Lc8, hQ8, l8, y8, z8⟩, st8⟩ := Jvm.LawKit.callS X2 hx (y := own_m31) hown (mvT hZ (hw _ (own_w 81 rfl))) (mvT hZ (hw _ (own_w 82 rfl))) (mvT hZ (hw _ (own_w 80 rfl))) (mvT hZ (hw _ (own_w 83 rfl))) (by decide) (backOf (W := 0) (rmpck_r l Z a0 hw [] p1 p2 aF h0 n0 Z0 h1 h2) hZ (hw _ (own_w 83 rfl)) (hw _ (own_w 80 rfl)) (by decide) (by decide)) (g := (mkF m 5 #[.val (.int p1), .val (.int p2)] [(.ref aF), (.int p2), (.int p1)])) rfl (by rw [hml]; rfl) (argsL := [(.int p1), (.int p2), (.ref aF)]) (rest := []) (lenOf pd_9 rfl) rfl (by show 2 * 0 + _ ≤ _; exact Nat.le_of_eq rfl) (hb hby d16_5) (fun _ _ => ⟨rfl, e2, (by decide : 0 + 0 ≤ _), (by decide : 0 + 0 ≤ _)⟩)
    dsimp only [Pt.U, Pt.locs, Pt.cells, Pt.slots] at X8 l8 y8 z8 st8 hQ8
    subst l8 y8 z8
    obtain ⟨rfl, Nq8, eq8⟩ := hQ8
    have N8 := Fr.app N0 Nq8
    have pre9 : own_Go p e below S0 (T8.setTop (mkF m 9 #[.val (.int p1), .val (.int p2)] [])) := by
      intro t kt
      refine pre7 t ?_
      refine st8 _ ?_
      show Steps p.tables e below (T8.setTop (mkF m 8 #[.val (.int p1), .val (.int p2)] [(.int p1)])) _
      refine XS.pop X8.here hx rfl (hb hby d16_8) rfl rfl ?_
      exact kt
    obtain ⟨fs, hr, hrun, hended, hW, hsame⟩ := X8.leave (v := none) (fun _ => rfl)
    refine ⟨_, _, fin _ (pre9 _ ?_), hrun, hended, _, _, rfl, ?_, ⟨_, rfl⟩, hW, hsame.mono (by decide) (by decide)⟩
    · exact X8.returnOut hx Bd.returns (hb hby d16_9) hr
    · show Qsck Z p1 p2 wF h0 n0 _ T8.heap _
      rw [eq8]
      exact ⟨rfl, N8, rfl⟩

theorem d15_0 : decode jdk_43_method_2_code 0 = .ok (.iload_n 1, 1) := by decide +kernel
theorem d15_1 : decode jdk_43_method_2_code 1 = .ok (.aload_n 0, 1) := by decide +kernel
theorem d15_2 : decode jdk_43_method_2_code 2 = .ok (.arraylength, 1) := by decide +kernel
theorem d15_3 : decode jdk_43_method_2_code 3 = .ok (.invokestatic 9, 3) := by decide +kernel
theorem d15_6 : decode jdk_43_method_2_code 6 = .ok (.aload_n 0, 1) := by decide +kernel
theorem d15_7 : decode jdk_43_method_2_code 7 = .ok (.iload_n 1, 1) := by decide +kernel
theorem d15_8 : decode jdk_43_method_2_code 8 = .ok (.baload, 1) := by decide +kernel
theorem d15_9 : decode jdk_43_method_2_code 9 = .ok (.sipush 255, 3) := by decide +kernel
theorem d15_12 : decode jdk_43_method_2_code 12 = .ok (.iand, 1) := by decide +kernel
theorem d15_13 : decode jdk_43_method_2_code 13 = .ok (.i2c, 1) := by decide +kernel
theorem d15_14 : decode jdk_43_method_2_code 14 = .ok (.ireturn, 1) := by decide +kernel
theorem pn_15 : plainName "java/lang/StringLatin1" = true := by first | (simp [plainName, overriddenIn]; done) | decide +kernel
theorem pd_10 : parseMethodDescriptor "(II)V" = some ⟨[.int, .int], none⟩ := by decide +kernel
theorem ef_l1at (m : MethodId) (x0 : Addr) (x1 : Int32) : entryFrame m #[(.ref x0), (.int x1)] 2 = mkF m 0 #[.val (.ref x0), .val (.int x1)] [] := by first | (simp [entryFrame, mkF, argsToLocals, Value.category]; done) | rfl
def Ql1at (Z : State) (a1 : Addr) (p2 : Int32) (wF : Value) (k1 : ClassId) (z1 : Int32) (vs : List Value) (d1 : Value) (u : Int32) (h0 : Heap) (n0 : Nat) (v : Option Value) (h : Heap) (L : List Loc) : Prop := v = (some (.int (own_lc u))) ∧ Fr n0 L ∧ h = h0
set_option maxRecDepth 65536 in
set_option maxHeartbeats 40000000 in
theorem rml1at (l : Launch) (Z : State) (a0 : Array Value) (hw : ∀ d ∈ tables_1, d.before a0 Z = true) (ws : List Jvm.Cond) (a1 : Addr) (p2 : Int32) (wF : Value) (k1 : ClassId) (z1 : Int32) (vs : List Value) (d1 : Value) (u : Int32) (h0 : Heap) (n0 : Nat) (Z0 : n0 ≤ h0.size) (O0 : Old Z n0 h0) (qF : (own_SF Z wF)) (V1 : Arv Z h0 a1 k1 .byte z1 vs d1) (h1 : (¬ p2 < (0 : Int32))) (h2 : (p2 < z1)) (hg : (vs.getD p2.toNatClampNeg d1 = .int u)) :
    MetFree l own_m17 (head1 (Jvm.Cond.code own_m17 jdk_43_method_2_code 2 (some .char) :: ws) (own_r 2 0 0 27)) (fun a U => a = #[(.ref a1), (.int p2)] ∧ Z.Warmed39 U.vm ∧ U.heap = h0) (fun _ _ _ _ _ => True) (fun _ U o U' => ∃ v L, o = .returned v ∧ Ql1at Z a1 p2 wF k1 z1 vs d1 u h0 n0 v U'.heap L ∧ FrameEnd U o U' L (own_r 2 0 0 27).cells (own_r 2 0 0 27).slots) := by
  refine MetFree.of_bodySF (plainFor_of_name pn_15) hisR ?_
  intro p e s m args below meth c s₁ Bd hml0 hP hK
  obtain ⟨rfl, hZ, hh⟩ := hP
  have hx := Bd.exec
  have hby := Bd.bytes
  have hml : c.maxLocals = 2 := hml0
  have hown0 := findClass_of_methodNamed Bd.named
  have hown : s.vm.findClass "java/lang/StringLatin1" = some m.cls := hown0
  have hnm := (name_of_methodNamed Bd.named Bd.method).1
  have X0 : Stand p l e (own_r 2 0 0 27) s m #[(.ref a1), (.int p2)] below meth c s₁ [] 0 0 := Stand.of_body Bd
  have e0 : s₁.heap = h0 := by rw [← hh, Bd.state]; rfl
  have N0 := Fr.nil n0
  obtain ⟨S0, hS0⟩ : ∃ z, z = s₁.setTop (entryFrame m #[(.ref a1), (.int p2)] 2) := ⟨_, rfl⟩
  have pre0 : own_Go p e below S0 (s₁.setTop (mkF m 0 #[.val (.ref a1), .val (.int p2)] [])) := fun t k => by rw [hS0]; exact castTop (ef_l1at m a1 p2) k
  have fin : ∀ t, Steps p.tables e below S0 t → Steps p.tables e below (s₁.setTop (entryFrame m #[(.ref a1), (.int p2)] 2)) t := fun t k => by rw [hS0] at k; exact k
  have pre1 : own_Go p e below S0 (s₁.setTop (mkF m 2 #[.val (.ref a1), .val (.int p2)] [(.ref a1), (.int p2)])) := by
    intro t kt
    refine pre0 t ?_
    refine XS.iloadN X0.here hx rfl (hb hby d15_0) rfl ?_
    refine XS.aloadN X0.here hx rfl (hb hby d15_1) rfl rfl ?_
    exact kt
  obtain ⟨cl2, Ar2, -, Sz2, Ng2, -, -⟩ := id V1
  have pre3 : own_Go p e below S0 (s₁.setTop (mkF m 3 #[.val (.ref a1), .val (.int p2)] [(.int z1), (.int p2)])) := by
    intro t kt
    refine pre1 t ?_
    refine X0.arraylength hx (by rw [e0]; exact Ar2.1) (State.isArrayOf_alike hZ.alike Ar2.2.1) (g := (mkF m 2 #[.val (.ref a1), .val (.int p2)] [(.ref a1), (.int p2)])) rfl rfl (hb hby d15_2) _ ?_
    rw [len_of Sz2 Ng2]
    show Steps p.tables e below (s₁.setTop (mkF m 3 #[.val (.ref a1), .val (.int p2)] [(.int z1), (.int p2)])) _
    exact kt
  obtain ⟨_, _, ⟨T4, L4, k4, n4⟩, -, X4, ⟨Lc4, hQ4, l4, y4, z4⟩, st4⟩ := Jvm.LawKit.callS X0 hx (y := own_m9) hown (mvT hZ (hw _ (own_w 76 rfl))) (mvT hZ (hw _ (own_w 77 rfl))) (mvT hZ (hw _ (own_w 11 rfl))) (mvT hZ (hw _ (own_w 78 rfl))) (by decide) (backOf (W := 0) (rmsck l Z a0 hw [] p2 z1 wF h0 n0 Z0 O0 qF h1 h2) hZ (hw _ (own_w 78 rfl)) (hw _ (own_w 11 rfl)) (by decide) (by decide)) (g := (mkF m 3 #[.val (.ref a1), .val (.int p2)] [(.int z1), (.int p2)])) rfl (by rw [hml]; rfl) (argsL := [(.int p2), (.int z1)]) (rest := []) (lenOf pd_10 rfl) rfl (by show 2 * 0 + _ ≤ _; exact Nat.le_of_eq rfl) (hb hby d15_3) (fun _ _ => ⟨rfl, e0, (by decide : 0 + 0 ≤ _), (by decide : 0 + 0 ≤ _)⟩)
  dsimp only [Pt.U, Pt.locs, Pt.cells, Pt.slots] at X4 l4 y4 z4 st4 hQ4
  subst l4 y4 z4
  obtain ⟨rfl, Nq4, eq4⟩ := hQ4
  have N4 := Fr.app N0 Nq4
  have pre5 : own_Go p e below S0 (T4.setTop (mkF m 8 #[.val (.ref a1), .val (.int p2)] [(.int p2), (.ref a1)])) := by
    intro t kt
    refine pre3 t ?_
    refine st4 _ ?_
    show Steps p.tables e below (T4.setTop (mkF m 6 #[.val (.ref a1), .val (.int p2)] [])) _
    refine XS.aloadN X4.here hx rfl (hb hby d15_6) rfl rfl ?_
    refine XS.iloadN X4.here hx rfl (hb hby d15_7) rfl ?_
    exact kt
  obtain ⟨cl6, Ar6, -, Sz6, -, Hs6, -⟩ := id V1
  have hin6 : ¬ (p2 < 0 ∨ cl6.slots.size ≤ (p2).toNatClampNeg) := inb_of Sz6 ⟨h1, h2⟩
  have pre7 : own_Go p e below S0 (T4.setTop (mkF m 14 #[.val (.ref a1), .val (.int p2)] [(.int ((u &&& (255 : Int32)).toUInt32.toUInt16.toUInt32.toInt32))])) := by
    intro t kt
    refine pre5 t ?_
    refine X4.baloadBytes hx (j := p2) (v := (.int u)) (by rw [eq4]; exact Ar6.1) (State.isArrayOf_alike hZ.alike Ar6.2.1) Ar6.2.2 hin6 (Hs6.at hin6 hg) (g := (mkF m 8 #[.val (.ref a1), .val (.int p2)] [(.int p2), (.ref a1)])) rfl rfl (hb hby d15_8) _ ?_
    refine XS.sipush X4.here hx rfl (hb hby d15_9) ?_
    refine XS.iand X4.here hx rfl (hb hby d15_12) rfl ?_
    refine XS.i2c X4.here hx rfl (hb hby d15_13) rfl ?_
    exact kt
  obtain ⟨fs, hr, hrun, hended, hW, hsame⟩ := X4.leave (v := some (.int (nar .char ((u &&& (255 : Int32)).toUInt32.toUInt16.toUInt32.toInt32)))) (fun h => by rw [Bd.returns] at h; cases h)
  refine ⟨_, _, fin _ (pre7 _ ?_), hrun, hended, _, _, rfl, ?_, ⟨_, rfl⟩, hW, hsame.mono (by decide) (by decide)⟩
  · exact retN X4 hx (t := .char) Bd.returns (by simp) (hb hby d15_14) hr
  · show Ql1at Z a1 p2 wF k1 z1 vs d1 u h0 n0 _ T4.heap _
    rw [eq4]
    exact ⟨rfl, N4, rfl⟩

theorem d33_0 : decode jdk_52_method_6_code 0 = .ok (.aload_n 0, 1) := by decide +kernel
theorem d33_1 : decode jdk_52_method_6_code 1 = .ok (.arraylength, 1) := by decide +kernel
theorem d33_2 : decode jdk_52_method_6_code 2 = .ok (.iconst 1, 1) := by decide +kernel
theorem d33_3 : decode jdk_52_method_6_code 3 = .ok (.ishr, 1) := by decide +kernel
theorem d33_4 : decode jdk_52_method_6_code 4 = .ok (.ireturn, 1) := by decide +kernel
theorem pn_33 : plainName "java/lang/StringUTF16" = true := by first | (simp [plainName, overriddenIn]; done) | decide +kernel
theorem ef_u16len (m : MethodId) (x0 : Addr) : entryFrame m #[(.ref x0)] 1 = mkF m 0 #[.val (.ref x0)] [] := by first | (simp [entryFrame, mkF, argsToLocals, Value.category]; done) | rfl
def Qu16len (Z : State) (a1 : Addr) (k1 : ClassId) (z1 : Int32) (vs : List Value) (d1 : Value) (h0 : Heap) (n0 : Nat) (v : Option Value) (h : Heap) (L : List Loc) : Prop := v = (some (.int (z1 >>> ((1 : Int32) &&& 31)))) ∧ Fr n0 L ∧ h = h0
set_option maxRecDepth 65536 in
set_option maxHeartbeats 40000000 in
theorem rmu16len (l : Launch) (Z : State) (a0 : Array Value) (hw : ∀ d ∈ tables_1, d.before a0 Z = true) (ws : List Jvm.Cond) (a1 : Addr) (k1 : ClassId) (z1 : Int32) (vs : List Value) (d1 : Value) (h0 : Heap) (n0 : Nat) (Z0 : n0 ≤ h0.size) (V1 : Arv Z h0 a1 k1 .byte z1 vs d1) :
    MetFree l own_m26 (head1 (Jvm.Cond.code own_m26 jdk_52_method_6_code 1 (some .int) :: ws) (own_r 0 0 0 0)) (fun a U => a = #[(.ref a1)] ∧ Z.Warmed39 U.vm ∧ U.heap = h0) (fun _ _ _ _ _ => True) (fun _ U o U' => ∃ v L, o = .returned v ∧ Qu16len Z a1 k1 z1 vs d1 h0 n0 v U'.heap L ∧ FrameEnd U o U' L (own_r 0 0 0 0).cells (own_r 0 0 0 0).slots) := by
  refine MetFree.of_bodySF (plainFor_of_name pn_33) hisR ?_
  intro p e s m args below meth c s₁ Bd hml0 hP hK
  obtain ⟨rfl, hZ, hh⟩ := hP
  have hx := Bd.exec
  have hby := Bd.bytes
  have hml : c.maxLocals = 1 := hml0
  have hown0 := findClass_of_methodNamed Bd.named
  have hown : s.vm.findClass "java/lang/StringUTF16" = some m.cls := hown0
  have hnm := (name_of_methodNamed Bd.named Bd.method).1
  have X0 : Stand p l e (own_r 0 0 0 0) s m #[(.ref a1)] below meth c s₁ [] 0 0 := Stand.of_body Bd
  have e0 : s₁.heap = h0 := by rw [← hh, Bd.state]; rfl
  have N0 := Fr.nil n0
  obtain ⟨S0, hS0⟩ : ∃ z, z = s₁.setTop (entryFrame m #[(.ref a1)] 1) := ⟨_, rfl⟩
  have pre0 : own_Go p e below S0 (s₁.setTop (mkF m 0 #[.val (.ref a1)] [])) := fun t k => by rw [hS0]; exact castTop (ef_u16len m a1) k
  have fin : ∀ t, Steps p.tables e below S0 t → Steps p.tables e below (s₁.setTop (entryFrame m #[(.ref a1)] 1)) t := fun t k => by rw [hS0] at k; exact k
  have pre1 : own_Go p e below S0 (s₁.setTop (mkF m 1 #[.val (.ref a1)] [(.ref a1)])) := by
    intro t kt
    refine pre0 t ?_
    refine XS.aloadN X0.here hx rfl (hb hby d33_0) rfl rfl ?_
    exact kt
  obtain ⟨cl2, Ar2, -, Sz2, Ng2, -, -⟩ := id V1
  have pre3 : own_Go p e below S0 (s₁.setTop (mkF m 4 #[.val (.ref a1)] [(.int (z1 >>> ((1 : Int32) &&& 31)))])) := by
    intro t kt
    refine pre1 t ?_
    refine X0.arraylength hx (by rw [e0]; exact Ar2.1) (State.isArrayOf_alike hZ.alike Ar2.2.1) (g := (mkF m 1 #[.val (.ref a1)] [(.ref a1)])) rfl rfl (hb hby d33_1) _ ?_
    rw [len_of Sz2 Ng2]
    show Steps p.tables e below (s₁.setTop (mkF m 2 #[.val (.ref a1)] [(.int z1)])) _
    refine XS.iconst X0.here hx rfl (hb hby d33_2) ?_
    refine XS.ishr X0.here hx rfl (hb hby d33_3) rfl ?_
    exact kt
  obtain ⟨fs, hr, hrun, hended, hW, hsame⟩ := X0.leave (v := some (.int (z1 >>> ((1 : Int32) &&& 31)))) (fun h => by rw [Bd.returns] at h; cases h)
  refine ⟨_, _, fin _ (pre3 _ ?_), hrun, hended, _, _, rfl, ?_, ⟨_, rfl⟩, hW, hsame.mono (by decide) (by decide)⟩
  · exact retI X0 hx Bd.returns (hb hby d33_4) hr
  · show Qu16len Z a1 k1 z1 vs d1 h0 n0 _ s₁.heap _
    rw [e0]
    exact ⟨rfl, N0, rfl⟩

theorem d32_0 : decode jdk_52_method_91_code 0 = .ok (.iload_n 0, 1) := by decide +kernel
theorem d32_1 : decode jdk_52_method_91_code 1 = .ok (.aload_n 1, 1) := by decide +kernel
theorem d32_2 : decode jdk_52_method_91_code 2 = .ok (.invokestatic 48, 3) := by decide +kernel
theorem d32_5 : decode jdk_52_method_91_code 5 = .ok (.invokestatic 414, 3) := by decide +kernel
theorem d32_8 : decode jdk_52_method_91_code 8 = .ok (.return_, 1) := by decide +kernel
theorem pn_32 : plainName "java/lang/StringUTF16" = true := by first | (simp [plainName, overriddenIn]; done) | decide +kernel
theorem pd_11 : parseMethodDescriptor "([B)I" = some ⟨[(.array .byte)], some .int⟩ := by decide +kernel
theorem ef_u16ck (m : MethodId) (x0 : Int32) (x1 : Addr) : entryFrame m #[(.int x0), (.ref x1)] 2 = mkF m 0 #[.val (.int x0), .val (.ref x1)] [] := by first | (simp [entryFrame, mkF, argsToLocals, Value.category]; done) | rfl
def Qu16ck (Z : State) (p1 : Int32) (a2 : Addr) (wF : Value) (k1 : ClassId) (z1 : Int32) (vs : List Value) (d1 : Value) (h0 : Heap) (n0 : Nat) (v : Option Value) (h : Heap) (L : List Loc) : Prop := v = none ∧ Fr n0 L ∧ h = h0
set_option maxRecDepth 65536 in
set_option maxHeartbeats 40000000 in
theorem rmu16ck (l : Launch) (Z : State) (a0 : Array Value) (hw : ∀ d ∈ tables_1, d.before a0 Z = true) (ws : List Jvm.Cond) (p1 : Int32) (a2 : Addr) (wF : Value) (k1 : ClassId) (z1 : Int32) (vs : List Value) (d1 : Value) (h0 : Heap) (n0 : Nat) (Z0 : n0 ≤ h0.size) (O0 : Old Z n0 h0) (qF : (own_SF Z wF)) (V1 : Arv Z h0 a2 k1 .byte z1 vs d1) (h1 : (¬ p1 < (0 : Int32))) (h2 : (p1 < (z1 >>> ((1 : Int32) &&& 31)))) :
    MetFree l own_m21 (head1 (Jvm.Cond.code own_m21 jdk_52_method_91_code 2 none :: ws) (own_r 2 0 0 27)) (fun a U => a = #[(.int p1), (.ref a2)] ∧ Z.Warmed39 U.vm ∧ U.heap = h0) (fun _ _ _ _ _ => True) (fun _ U o U' => ∃ v L, o = .returned v ∧ Qu16ck Z p1 a2 wF k1 z1 vs d1 h0 n0 v U'.heap L ∧ FrameEnd U o U' L (own_r 2 0 0 27).cells (own_r 2 0 0 27).slots) := by
  refine MetFree.of_bodySF (plainFor_of_name pn_32) hisR ?_
  intro p e s m args below meth c s₁ Bd hml0 hP hK
  obtain ⟨rfl, hZ, hh⟩ := hP
  have hx := Bd.exec
  have hby := Bd.bytes
  have hml : c.maxLocals = 2 := hml0
  have hown0 := findClass_of_methodNamed Bd.named
  have hown : s.vm.findClass "java/lang/StringUTF16" = some m.cls := hown0
  have hnm := (name_of_methodNamed Bd.named Bd.method).1
  have X0 : Stand p l e (own_r 2 0 0 27) s m #[(.int p1), (.ref a2)] below meth c s₁ [] 0 0 := Stand.of_body Bd
  have e0 : s₁.heap = h0 := by rw [← hh, Bd.state]; rfl
  have N0 := Fr.nil n0
  obtain ⟨S0, hS0⟩ : ∃ z, z = s₁.setTop (entryFrame m #[(.int p1), (.ref a2)] 2) := ⟨_, rfl⟩
  have pre0 : own_Go p e below S0 (s₁.setTop (mkF m 0 #[.val (.int p1), .val (.ref a2)] [])) := fun t k => by rw [hS0]; exact castTop (ef_u16ck m p1 a2) k
  have fin : ∀ t, Steps p.tables e below S0 t → Steps p.tables e below (s₁.setTop (entryFrame m #[(.int p1), (.ref a2)] 2)) t := fun t k => by rw [hS0] at k; exact k
  have pre1 : own_Go p e below S0 (s₁.setTop (mkF m 2 #[.val (.int p1), .val (.ref a2)] [(.ref a2), (.int p1)])) := by
    intro t kt
    refine pre0 t ?_
    refine XS.iloadN X0.here hx rfl (hb hby d32_0) rfl ?_
    refine XS.aloadN X0.here hx rfl (hb hby d32_1) rfl rfl ?_
    exact kt
  obtain ⟨_, _, ⟨T2, L2, k2, n2⟩, -, X2, ⟨Lc2, hQ2, l2, y2, z2⟩, st2⟩ := Jvm.LawKit.callS X0 hx (y := own_m26) hown (mvT hZ (hw _ (own_w 144 rfl))) (mvT hZ (hw _ (own_w 145 rfl))) (mvT hZ (hw _ (own_w 26 rfl))) (mvT hZ (hw _ (own_w 146 rfl))) (by decide) (backOf (W := 1) (rmu16len l Z a0 hw [] a2 k1 z1 vs d1 h0 n0 Z0 V1) hZ (hw _ (own_w 146 rfl)) (hw _ (own_w 26 rfl)) (by decide) (by decide)) (g := (mkF m 2 #[.val (.int p1), .val (.ref a2)] [(.ref a2), (.int p1)])) rfl (by rw [hml]; rfl) (argsL := [(.ref a2)]) (rest := [(.int p1)]) (lenOf pd_11 rfl) rfl (by show 2 * 0 + _ ≤ _; exact Nat.le_of_eq rfl) (hb hby d32_2) (fun _ _ => ⟨rfl, e0, (by decide : 0 + 0 ≤ _), (by decide : 0 + 0 ≤ _)⟩)
  dsimp only [Pt.U, Pt.locs, Pt.cells, Pt.slots] at X2 l2 y2 z2 st2 hQ2
  subst l2 y2 z2
  obtain ⟨rfl, Nq2, eq2⟩ := hQ2
  have N2 := Fr.app N0 Nq2
  have pre3 : own_Go p e below S0 (T2.setTop (mkF m 5 #[.val (.int p1), .val (.ref a2)] [(.int (z1 >>> ((1 : Int32) &&& 31))), (.int p1)])) := by
    intro t kt
    refine pre1 t ?_
    refine st2 _ ?_
    show Steps p.tables e below (T2.setTop (mkF m 5 #[.val (.int p1), .val (.ref a2)] [(.int (z1 >>> ((1 : Int32) &&& 31))), (.int p1)])) _
    exact kt
  obtain ⟨_, _, ⟨T4, L4, k4, n4⟩, -, X4, ⟨Lc4, hQ4, l4, y4, z4⟩, st4⟩ := Jvm.LawKit.callS X2 hx (y := own_m9) hown (mvT hZ (hw _ (own_w 147 rfl))) (mvT hZ (hw _ (own_w 77 rfl))) (mvT hZ (hw _ (own_w 11 rfl))) (mvT hZ (hw _ (own_w 78 rfl))) (by decide) (backOf (W := 0) (rmsck l Z a0 hw [] p1 (z1 >>> ((1 : Int32) &&& 31)) wF h0 n0 Z0 O0 qF h1 h2) hZ (hw _ (own_w 78 rfl)) (hw _ (own_w 11 rfl)) (by decide) (by decide)) (g := (mkF m 5 #[.val (.int p1), .val (.ref a2)] [(.int (z1 >>> ((1 : Int32) &&& 31))), (.int p1)])) rfl (by rw [hml]; rfl) (argsL := [(.int p1), (.int (z1 >>> ((1 : Int32) &&& 31)))]) (rest := []) (lenOf pd_10 rfl) rfl (by show 2 * 0 + _ ≤ _; exact Nat.le_of_eq rfl) (hb hby d32_5) (fun _ _ => ⟨rfl, eq2, (by decide : 0 + 0 ≤ _), (by decide : 0 + 0 ≤ _)⟩)
  dsimp only [Pt.U, Pt.locs, Pt.cells, Pt.slots] at X4 l4 y4 z4 st4 hQ4
  subst l4 y4 z4
  obtain ⟨rfl, Nq4, eq4⟩ := hQ4
  have N4 := Fr.app N2 Nq4
  have pre5 : own_Go p e below S0 (T4.setTop (mkF m 8 #[.val (.int p1), .val (.ref a2)] [])) := by
    intro t kt
    refine pre3 t ?_
    refine st4 _ ?_
    show Steps p.tables e below (T4.setTop (mkF m 8 #[.val (.int p1), .val (.ref a2)] [])) _
    exact kt
  obtain ⟨fs, hr, hrun, hended, hW, hsame⟩ := X4.leave (v := none) (fun _ => rfl)
  refine ⟨_, _, fin _ (pre5 _ ?_), hrun, hended, _, _, rfl, ?_, ⟨_, rfl⟩, hW, hsame.mono (by decide) (by decide)⟩
  · exact X4.returnOut hx Bd.returns (hb hby d32_8) hr
  · show Qu16ck Z p1 a2 wF k1 z1 vs d1 h0 n0 _ T4.heap _
    rw [eq4]
    exact ⟨rfl, N4, rfl⟩

theorem d31_0 : decode jdk_52_method_83_code 0 = .ok (.iload_n 1, 1) := by decide +kernel
theorem d31_1 : decode jdk_52_method_83_code 1 = .ok (.aload_n 0, 1) := by decide +kernel
theorem d31_2 : decode jdk_52_method_83_code 2 = .ok (.invokestatic 67, 3) := by decide +kernel
theorem d31_5 : decode jdk_52_method_83_code 5 = .ok (.aload_n 0, 1) := by decide +kernel
theorem d31_6 : decode jdk_52_method_83_code 6 = .ok (.iload_n 1, 1) := by decide +kernel
theorem d31_7 : decode jdk_52_method_83_code 7 = .ok (.invokestatic 71, 3) := by decide +kernel
theorem d31_10 : decode jdk_52_method_83_code 10 = .ok (.ireturn, 1) := by decide +kernel
theorem pn_31 : plainName "java/lang/StringUTF16" = true := by first | (simp [plainName, overriddenIn]; done) | decide +kernel
theorem pd_12 : parseMethodDescriptor "(I[B)V" = some ⟨[.int, (.array .byte)], none⟩ := by decide +kernel
theorem ef_u16at (m : MethodId) (x0 : Addr) (x1 : Int32) : entryFrame m #[(.ref x0), (.int x1)] 2 = mkF m 0 #[.val (.ref x0), .val (.int x1)] [] := by first | (simp [entryFrame, mkF, argsToLocals, Value.category]; done) | rfl
def Qu16at (Z : State) (a1 : Addr) (p2 : Int32) (wF : Value) (k1 : ClassId) (z1 : Int32) (vs : List Value) (d1 : Value) (b0 : Int32) (b1 : Int32) (m0 : Nat) (m1 : Nat) (h0 : Heap) (n0 : Nat) (v : Option Value) (h : Heap) (L : List Loc) : Prop := v = (some (.int (own_gc b0 b1))) ∧ Fr n0 L ∧ h = h0
set_option maxRecDepth 65536 in
set_option maxHeartbeats 40000000 in
theorem rmu16at (l : Launch) (Z : State) (a0 : Array Value) (hw : ∀ d ∈ tables_1, d.before a0 Z = true) (ws : List Jvm.Cond) (a1 : Addr) (p2 : Int32) (wF : Value) (k1 : ClassId) (z1 : Int32) (vs : List Value) (d1 : Value) (b0 : Int32) (b1 : Int32) (m0 : Nat) (m1 : Nat) (h0 : Heap) (n0 : Nat) (Z0 : n0 ≤ h0.size) (O0 : Old Z n0 h0) (qU : (own_SU Z)) (qF : (own_SF Z wF)) (V1 : Arv Z h0 a1 k1 .byte z1 vs d1) (g0a : (¬ (p2 <<< ((1 : Int32) &&& 31)) < (0 : Int32))) (g0b : ((p2 <<< ((1 : Int32) &&& 31)) < z1)) (hm0 : ((p2 <<< ((1 : Int32) &&& 31)).toNatClampNeg = m0)) (hb0 : (vs.getD m0 d1 = .int b0)) (g1a : (¬ ((p2 <<< ((1 : Int32) &&& 31)) + (1 : Int32)) < (0 : Int32))) (g1b : (((p2 <<< ((1 : Int32) &&& 31)) + (1 : Int32)) < z1)) (hm1 : (((p2 <<< ((1 : Int32) &&& 31)) + (1 : Int32)).toNatClampNeg = m1)) (hb1 : (vs.getD m1 d1 = .int b1)) (h1 : (¬ p2 < (0 : Int32))) (h2 : (p2 < (z1 >>> ((1 : Int32) &&& 31)))) :
    MetFree l own_m20 (head1 (Jvm.Cond.code own_m20 jdk_52_method_83_code 2 (some .char) :: ws) (own_r 3 0 0 40)) (fun a U => a = #[(.ref a1), (.int p2)] ∧ Z.Warmed39 U.vm ∧ U.heap = h0) (fun _ _ _ _ _ => True) (fun _ U o U' => ∃ v L, o = .returned v ∧ Qu16at Z a1 p2 wF k1 z1 vs d1 b0 b1 m0 m1 h0 n0 v U'.heap L ∧ FrameEnd U o U' L (own_r 3 0 0 40).cells (own_r 3 0 0 40).slots) := by
  refine MetFree.of_bodySF (plainFor_of_name pn_31) hisR ?_
  intro p e s m args below meth c s₁ Bd hml0 hP hK
  obtain ⟨rfl, hZ, hh⟩ := hP
  have hx := Bd.exec
  have hby := Bd.bytes
  have hml : c.maxLocals = 2 := hml0
  have hown0 := findClass_of_methodNamed Bd.named
  have hown : s.vm.findClass "java/lang/StringUTF16" = some m.cls := hown0
  have hnm := (name_of_methodNamed Bd.named Bd.method).1
  have X0 : Stand p l e (own_r 3 0 0 40) s m #[(.ref a1), (.int p2)] below meth c s₁ [] 0 0 := Stand.of_body Bd
  have e0 : s₁.heap = h0 := by rw [← hh, Bd.state]; rfl
  have N0 := Fr.nil n0
  obtain ⟨S0, hS0⟩ : ∃ z, z = s₁.setTop (entryFrame m #[(.ref a1), (.int p2)] 2) := ⟨_, rfl⟩
  have pre0 : own_Go p e below S0 (s₁.setTop (mkF m 0 #[.val (.ref a1), .val (.int p2)] [])) := fun t k => by rw [hS0]; exact castTop (ef_u16at m a1 p2) k
  have fin : ∀ t, Steps p.tables e below S0 t → Steps p.tables e below (s₁.setTop (entryFrame m #[(.ref a1), (.int p2)] 2)) t := fun t k => by rw [hS0] at k; exact k
  have pre1 : own_Go p e below S0 (s₁.setTop (mkF m 2 #[.val (.ref a1), .val (.int p2)] [(.ref a1), (.int p2)])) := by
    intro t kt
    refine pre0 t ?_
    refine XS.iloadN X0.here hx rfl (hb hby d31_0) rfl ?_
    refine XS.aloadN X0.here hx rfl (hb hby d31_1) rfl rfl ?_
    exact kt
  obtain ⟨_, _, ⟨T2, L2, k2, n2⟩, -, X2, ⟨Lc2, hQ2, l2, y2, z2⟩, st2⟩ := Jvm.LawKit.callS X0 hx (y := own_m21) hown (mvT hZ (hw _ (own_w 141 rfl))) (mvT hZ (hw _ (own_w 142 rfl))) (mvT hZ (hw _ (own_w 26 rfl))) (mvT hZ (hw _ (own_w 143 rfl))) (by decide) (backOf (W := 0) (rmu16ck l Z a0 hw [] p2 a1 wF k1 z1 vs d1 h0 n0 Z0 O0 qF V1 h1 h2) hZ (hw _ (own_w 143 rfl)) (hw _ (own_w 26 rfl)) (by decide) (by decide)) (g := (mkF m 2 #[.val (.ref a1), .val (.int p2)] [(.ref a1), (.int p2)])) rfl (by rw [hml]; rfl) (argsL := [(.int p2), (.ref a1)]) (rest := []) (lenOf pd_12 rfl) rfl (by show 2 * 0 + _ ≤ _; exact Nat.le_of_eq rfl) (hb hby d31_2) (fun _ _ => ⟨rfl, e0, (by decide : 0 + 0 ≤ _), (by decide : 0 + 0 ≤ _)⟩)
  dsimp only [Pt.U, Pt.locs, Pt.cells, Pt.slots] at X2 l2 y2 z2 st2 hQ2
  subst l2 y2 z2
  obtain ⟨rfl, Nq2, eq2⟩ := hQ2
  have N2 := Fr.app N0 Nq2
  have pre3 : own_Go p e below S0 (T2.setTop (mkF m 7 #[.val (.ref a1), .val (.int p2)] [(.int p2), (.ref a1)])) := by
    intro t kt
    refine pre1 t ?_
    refine st2 _ ?_
    show Steps p.tables e below (T2.setTop (mkF m 5 #[.val (.ref a1), .val (.int p2)] [])) _
    refine XS.aloadN X2.here hx rfl (hb hby d31_5) rfl rfl ?_
    refine XS.iloadN X2.here hx rfl (hb hby d31_6) rfl ?_
    exact kt
  obtain ⟨_, _, ⟨T4, L4, k4, n4⟩, -, X4, ⟨Lc4, hQ4, l4, y4, z4⟩, st4⟩ := Jvm.LawKit.callS X2 hx (y := own_m25) hown (mvT hZ (hw _ (own_w 135 rfl))) (mvT hZ (hw _ (own_w 136 rfl))) (mvT hZ (hw _ (own_w 26 rfl))) (mvT hZ (hw _ (own_w 137 rfl))) (by decide) (backOf (W := 0) (rmgetc l Z a0 hw [] a1 p2 k1 z1 vs d1 b0 b1 m0 m1 h0 n0 Z0 O0 qU V1 g0a g0b hm0 hb0 g1a g1b hm1 hb1) hZ (hw _ (own_w 137 rfl)) (hw _ (own_w 26 rfl)) (by decide) (by decide)) (g := (mkF m 7 #[.val (.ref a1), .val (.int p2)] [(.int p2), (.ref a1)])) rfl (by rw [hml]; rfl) (argsL := [(.ref a1), (.int p2)]) (rest := []) (lenOf pd_6 rfl) rfl (by show 2 * 0 + _ ≤ _; exact Nat.le_of_eq rfl) (hb hby d31_7) (fun _ _ => ⟨rfl, eq2, (by decide : 0 + 0 ≤ _), (by decide : 0 + 0 ≤ _)⟩)
  dsimp only [Pt.U, Pt.locs, Pt.cells, Pt.slots] at X4 l4 y4 z4 st4 hQ4
  subst l4 y4 z4
  obtain ⟨rfl, Nq4, eq4⟩ := hQ4
  have N4 := Fr.app N2 Nq4
  have pre5 : own_Go p e below S0 (T4.setTop (mkF m 10 #[.val (.ref a1), .val (.int p2)] [(.int (own_gc b0 b1))])) := by
    intro t kt
    refine pre3 t ?_
    refine st4 _ ?_
    show Steps p.tables e below (T4.setTop (mkF m 10 #[.val (.ref a1), .val (.int p2)] [(.int (own_gc b0 b1))])) _
    exact kt
  obtain ⟨fs, hr, hrun, hended, hW, hsame⟩ := X4.leave (v := some (.int (nar .char (own_gc b0 b1)))) (fun h => by rw [Bd.returns] at h; cases h)
  refine ⟨_, _, fin _ (pre5 _ ?_), hrun, hended, _, _, rfl, ?_, ⟨_, rfl⟩, hW, hsame.mono (by decide) (by decide)⟩
  · exact retN X4 hx (t := .char) Bd.returns (by simp) (hb hby d31_10) hr
  · show Qu16at Z a1 p2 wF k1 z1 vs d1 b0 b1 m0 m1 h0 n0 _ T4.heap _
    rw [eq4]
    exact ⟨(congrArg (fun q => some (Value.int q)) (own_narChar2 _ _)), N4, rfl⟩

theorem d13_0 : decode jdk_42_method_56_code 0 = .ok (.aload_n 0, 1) := by decide +kernel
theorem d13_1 : decode jdk_42_method_56_code 1 = .ok (.invokevirtual 492, 3) := by decide +kernel
theorem d13_4 : decode jdk_42_method_56_code 4 = .ok (.ifCond .eq 12, 3) := by decide +kernel
theorem d13_7 : decode jdk_42_method_56_code 7 = .ok (.aload_n 0, 1) := by decide +kernel
theorem d13_8 : decode jdk_42_method_56_code 8 = .ok (.getfield 9, 3) := by decide +kernel
theorem d13_11 : decode jdk_42_method_56_code 11 = .ok (.iload_n 1, 1) := by decide +kernel
theorem d13_12 : decode jdk_42_method_56_code 12 = .ok (.invokestatic 495, 3) := by decide +kernel
theorem d13_15 : decode jdk_42_method_56_code 15 = .ok (.ireturn, 1) := by decide +kernel
theorem d13_16 : decode jdk_42_method_56_code 16 = .ok (.aload_n 0, 1) := by decide +kernel
theorem d13_17 : decode jdk_42_method_56_code 17 = .ok (.getfield 9, 3) := by decide +kernel
theorem d13_20 : decode jdk_42_method_56_code 20 = .ok (.iload_n 1, 1) := by decide +kernel
theorem d13_21 : decode jdk_42_method_56_code 21 = .ok (.invokestatic 498, 3) := by decide +kernel
theorem d13_24 : decode jdk_42_method_56_code 24 = .ok (.ireturn, 1) := by decide +kernel
theorem pn_13 : plainName "java/lang/String" = true := by first | (simp [plainName, overriddenIn]; done) | decide +kernel
theorem pd_13 : parseMethodDescriptor "()Z" = some ⟨[], some .boolean⟩ := by decide +kernel
theorem ef_charAt (m : MethodId) (x0 : Addr) (x1 : Int32) : entryFrame m #[(.ref x0), (.int x1)] 2 = mkF m 0 #[.val (.ref x0), .val (.int x1)] [] := by first | (simp [entryFrame, mkF, argsToLocals, Value.category]; done) | rfl
def QcharAt (Z : State) (a1 : Addr) (p2 : Int32) (wC : Int32) (wF : Value) (vb : Addr) (kb : ClassId) (cs : List Int32) (cx : Int32) (h0 : Heap) (n0 : Nat) (v : Option Value) (h : Heap) (L : List Loc) : Prop := v = (some (.int cx)) ∧ Fr n0 L ∧ h = h0
set_option maxRecDepth 65536 in
set_option maxHeartbeats 40000000 in
theorem rmcharAt (l : Launch) (Z : State) (a0 : Array Value) (hw : ∀ d ∈ tables_1, d.before a0 Z = true) (ws : List Jvm.Cond) (a1 : Addr) (p2 : Int32) (wC : Int32) (wF : Value) (vb : Addr) (kb : ClassId) (cs : List Int32) (cx : Int32) (h0 : Heap) (n0 : Nat) (Z0 : n0 ≤ h0.size) (O0 : Old Z n0 h0) (qC : (own_SC Z wC)) (qU : (own_SU Z)) (qF : (own_SF Z wF)) (hS : own_Str Z h0 a1 vb kb cs) (hn : (cs.length < 1000)) (h1 : (¬ p2 < (0 : Int32))) (h2 : (p2 < own_len cs)) (hc : (cs.getD p2.toNatClampNeg 0 = cx)) :
    MetFree l own_m8 (head1 (Jvm.Cond.code own_m8 jdk_42_method_56_code 2 (some .char) :: ws) (own_r 4 0 0 53)) (fun a U => a = #[(.ref a1), (.int p2)] ∧ Z.Warmed39 U.vm ∧ U.heap = h0) (fun _ _ _ _ _ => True) (fun _ U o U' => ∃ v L, o = .returned v ∧ QcharAt Z a1 p2 wC wF vb kb cs cx h0 n0 v U'.heap L ∧ FrameEnd U o U' L (own_r 4 0 0 53).cells (own_r 4 0 0 53).slots) := by
  refine MetFree.of_bodySF (plainFor_of_name pn_13) hisR ?_
  intro p e s m args below meth c s₁ Bd hml0 hP hK
  obtain ⟨rfl, hZ, hh⟩ := hP
  have hx := Bd.exec
  have hby := Bd.bytes
  have hml : c.maxLocals = 2 := hml0
  have hown0 := findClass_of_methodNamed Bd.named
  have hown : s.vm.findClass "java/lang/String" = some m.cls := hown0
  have hnm := (name_of_methodNamed Bd.named Bd.method).1
  have X0 : Stand p l e (own_r 4 0 0 53) s m #[(.ref a1), (.int p2)] below meth c s₁ [] 0 0 := Stand.of_body Bd
  have e0 : s₁.heap = h0 := by rw [← hh, Bd.state]; rfl
  have N0 := Fr.nil n0
  obtain ⟨S0, hS0⟩ : ∃ z, z = s₁.setTop (entryFrame m #[(.ref a1), (.int p2)] 2) := ⟨_, rfl⟩
  have pre0 : own_Go p e below S0 (s₁.setTop (mkF m 0 #[.val (.ref a1), .val (.int p2)] [])) := fun t k => by rw [hS0]; exact castTop (ef_charAt m a1 p2) k
  have fin : ∀ t, Steps p.tables e below S0 t → Steps p.tables e below (s₁.setTop (entryFrame m #[(.ref a1), (.int p2)] 2)) t := fun t k => by rw [hS0] at k; exact k
  obtain ⟨oE, oV, ⟨oK, oL, oA⟩ | ⟨oK, oL, oA⟩⟩ := hS
  · have pre1 : own_Go p e below S0 (s₁.setTop (mkF m 1 #[.val (.ref a1), .val (.int p2)] [(.ref a1)])) := by
      intro t kt
      refine pre0 t ?_
      refine XS.aloadN X0.here hx rfl (hb hby d13_0) rfl rfl ?_
      exact kt
    obtain ⟨cq2, kq2, qa2, qb2, qc2⟩ := isOf hZ e0 oE
    obtain ⟨_, _, ⟨T2, L2, k2, n2⟩, -, X2, ⟨Lc2, hQ2, l2, y2, z2⟩, st2⟩ := X0.virtualBack hx (y := own_m14) (z := own_m14) hown (mvT hZ (hw _ (own_w 67 rfl))) (mvT hZ (hw _ (own_w 68 rfl))) (notFace_of_selects (args := #[]) (mvT hZ (hw _ (own_w 70 rfl)))) (mvT hZ (hw _ (own_w 70 rfl))) (mvT hZ (hw _ (own_w 69 rfl))) (by decide) (backOf (W := 0) (rmisLat0 l Z a0 hw [] a1 wC h0 n0 Z0 O0 qC oK) hZ (hw _ (own_w 71 rfl)) (hw _ (own_w 11 rfl)) (by decide) (by decide)) qa2 qc2 (g := (mkF m 1 #[.val (.ref a1), .val (.int p2)] [(.ref a1)])) rfl (by rw [hml]; rfl) (Steps.refl _) (argsL := []) (rest := []) (lenOf pd_13 rfl) rfl (by show 2 * 0 + _ ≤ _; exact Nat.le_of_eq rfl) (hb hby d13_1) (fun _ _ => ⟨rfl, e0, (by decide : 0 + 0 ≤ _), (by decide : 0 + 0 ≤ _)⟩)
    dsimp only [Pt.U, Pt.locs, Pt.cells, Pt.slots] at X2 l2 y2 z2 st2 hQ2
    subst l2 y2 z2
    obtain ⟨rfl, Nq2, eq2⟩ := hQ2
    have N2 := Fr.app N0 Nq2
    have pre3 : own_Go p e below S0 (T2.setTop (mkF m 8 #[.val (.ref a1), .val (.int p2)] [(.ref a1)])) := by
      intro t kt
      refine pre1 t ?_
      refine st2.trans ?_
      show Steps p.tables e below (T2.setTop (mkF m 4 #[.val (.ref a1), .val (.int p2)] [(.int 1)])) _
      refine XS.ifNo X2.here hx rfl (hb hby d13_4) rfl ((if0 _ _).trans (feq (by decide : ¬ ((1 : Int32) = (0 : Int32)))).1) ?_
      refine XS.aloadN X2.here hx rfl (hb hby d13_7) rfl rfl ?_
      exact kt
    obtain ⟨T4, X4, e4, st4⟩ := getF X2 hx hZ hown (host := "") (Or.inl (hw _ (own_w 37 rfl))) Via.refl eq2 oV (g := (mkF m 8 #[.val (.ref a1), .val (.int p2)] [(.ref a1)])) rfl rfl (hb hby d13_8)
    have pre5 : own_Go p e below S0 (T4.setTop (mkF m 12 #[.val (.ref a1), .val (.int p2)] [(.int p2), (.ref vb)])) := by
      intro t kt
      refine pre3 t ?_
      refine st4 _ ?_
      refine XS.iloadN X4.here hx rfl (hb hby d13_11) rfl ?_
      exact kt
    obtain ⟨_, _, ⟨T6, L6, k6, n6⟩, -, X6, ⟨Lc6, hQ6, l6, y6, z6⟩, st6⟩ := Jvm.LawKit.callS X4 hx (y := own_m17) hown (mvT hZ (hw _ (own_w 72 rfl))) (mvT hZ (hw _ (own_w 73 rfl))) (mvT hZ (hw _ (own_w 74 rfl))) (mvT hZ (hw _ (own_w 75 rfl))) (by decide) (backOf (W := 0) (rml1at l Z a0 hw [] vb p2 wF kb (own_len cs) (cs.map own_lb) (.int 0) (nar .byte (cx.toInt8.toInt32)) h0 n0 Z0 O0 qF oA h1 h2 (own_getLat hn h1 h2 hc)) hZ (hw _ (own_w 75 rfl)) (hw _ (own_w 74 rfl)) (by decide) (by decide)) (g := (mkF m 12 #[.val (.ref a1), .val (.int p2)] [(.int p2), (.ref vb)])) rfl (by rw [hml]; rfl) (argsL := [(.ref vb), (.int p2)]) (rest := []) (lenOf pd_6 rfl) rfl (by show 2 * 0 + _ ≤ _; exact Nat.le_of_eq rfl) (hb hby d13_12) (fun _ _ => ⟨rfl, e4, (by decide : 0 + 0 ≤ _), (by decide : 0 + 0 ≤ _)⟩)
    dsimp only [Pt.U, Pt.locs, Pt.cells, Pt.slots] at X6 l6 y6 z6 st6 hQ6
    subst l6 y6 z6
    obtain ⟨rfl, Nq6, eq6⟩ := hQ6
    have N6 := Fr.app N2 Nq6
    have pre7 : own_Go p e below S0 (T6.setTop (mkF m 15 #[.val (.ref a1), .val (.int p2)] [(.int (own_lc (nar .byte (cx.toInt8.toInt32))))])) := by
      intro t kt
      refine pre5 t ?_
      refine st6 _ ?_
      show Steps p.tables e below (T6.setTop (mkF m 15 #[.val (.ref a1), .val (.int p2)] [(.int (own_lc (nar .byte (cx.toInt8.toInt32))))])) _
      exact kt
    have hl : 0 ≤ cx.toInt ∧ cx.toInt < 256 := by rw [← hc]; exact own_LatAt cs _ oL (own_ixn hn h1 h2)
    obtain ⟨fs, hr, hrun, hended, hW, hsame⟩ := X6.leave (v := some (.int (nar .char (own_lc (nar .byte (cx.toInt8.toInt32)))))) (fun h => by rw [Bd.returns] at h; cases h)
    refine ⟨_, _, fin _ (pre7 _ ?_), hrun, hended, _, _, rfl, ?_, ⟨_, rfl⟩, hW, hsame.mono (by decide) (by decide)⟩
    · exact retN X6 hx (t := .char) Bd.returns (by simp) (hb hby d13_15) hr
    · show QcharAt Z a1 p2 wC wF vb kb cs cx h0 n0 _ T6.heap _
      rw [eq6]
      exact ⟨(by show some (Value.int (nar .char _)) = _; rw [own_latget cx hl, own_narChar cx hl.1 (by omega)]), N6, rfl⟩
  · have pre8 : own_Go p e below S0 (s₁.setTop (mkF m 1 #[.val (.ref a1), .val (.int p2)] [(.ref a1)])) := by
      intro t kt
      refine pre0 t ?_
      refine XS.aloadN X0.here hx rfl (hb hby d13_0) rfl rfl ?_
      exact kt
    obtain ⟨cq9, kq9, qa9, qb9, qc9⟩ := isOf hZ e0 oE
    obtain ⟨_, _, ⟨T9, L9, k9, n9⟩, -, X9, ⟨Lc9, hQ9, l9, y9, z9⟩, st9⟩ := X0.virtualBack hx (y := own_m14) (z := own_m14) hown (mvT hZ (hw _ (own_w 67 rfl))) (mvT hZ (hw _ (own_w 68 rfl))) (notFace_of_selects (args := #[]) (mvT hZ (hw _ (own_w 70 rfl)))) (mvT hZ (hw _ (own_w 70 rfl))) (mvT hZ (hw _ (own_w 69 rfl))) (by decide) (backOf (W := 0) (rmisLat1 l Z a0 hw [] a1 wC h0 n0 Z0 O0 qC oK) hZ (hw _ (own_w 71 rfl)) (hw _ (own_w 11 rfl)) (by decide) (by decide)) qa9 qc9 (g := (mkF m 1 #[.val (.ref a1), .val (.int p2)] [(.ref a1)])) rfl (by rw [hml]; rfl) (Steps.refl _) (argsL := []) (rest := []) (lenOf pd_13 rfl) rfl (by show 2 * 0 + _ ≤ _; exact Nat.le_of_eq rfl) (hb hby d13_1) (fun _ _ => ⟨rfl, e0, (by decide : 0 + 0 ≤ _), (by decide : 0 + 0 ≤ _)⟩)
    dsimp only [Pt.U, Pt.locs, Pt.cells, Pt.slots] at X9 l9 y9 z9 st9 hQ9
    subst l9 y9 z9
    obtain ⟨rfl, Nq9, eq9⟩ := hQ9
    have N9 := Fr.app N0 Nq9
    have pre10 : own_Go p e below S0 (T9.setTop (mkF m 17 #[.val (.ref a1), .val (.int p2)] [(.ref a1)])) := by
      intro t kt
      refine pre8 t ?_
      refine st9.trans ?_
      show Steps p.tables e below (T9.setTop (mkF m 4 #[.val (.ref a1), .val (.int p2)] [(.int 0)])) _
      refine XS.ifYes X9.here hx rfl (pc0 := 4) (pc' := 16) rfl (hb hby d13_4) rfl ((if0 _ _).trans (teq (by decide : (0 : Int32) = (0 : Int32))).1) (by decide) (by decide) ?_
      refine XS.aloadN X9.here hx rfl (hb hby d13_16) rfl rfl ?_
      exact kt
    obtain ⟨T11, X11, e11, st11⟩ := getF X9 hx hZ hown (host := "") (Or.inl (hw _ (own_w 37 rfl))) Via.refl eq9 oV (g := (mkF m 17 #[.val (.ref a1), .val (.int p2)] [(.ref a1)])) rfl rfl (hb hby d13_17)
    have pre12 : own_Go p e below S0 (T11.setTop (mkF m 21 #[.val (.ref a1), .val (.int p2)] [(.int p2), (.ref vb)])) := by
      intro t kt
      refine pre10 t ?_
      refine st11 _ ?_
      refine XS.iloadN X11.here hx rfl (hb hby d13_20) rfl ?_
      exact kt
    obtain ⟨_, _, ⟨T13, L13, k13, n13⟩, -, X13, ⟨Lc13, hQ13, l13, y13, z13⟩, st13⟩ := Jvm.LawKit.callS X11 hx (y := own_m20) hown (mvT hZ (hw _ (own_w 138 rfl))) (mvT hZ (hw _ (own_w 139 rfl))) (mvT hZ (hw _ (own_w 26 rfl))) (mvT hZ (hw _ (own_w 140 rfl))) (by decide) (backOf (W := 0) (rmu16at l Z a0 hw [] vb p2 wF kb (own_len2 cs) (own_ub cs) (.int 0) (nar .byte ((cx >>> ((0 : Int32) &&& 31)).toInt8.toInt32)) (nar .byte ((cx >>> ((8 : Int32) &&& 31)).toInt8.toInt32)) (2 * p2.toNatClampNeg) (2 * p2.toNatClampNeg + 1) h0 n0 Z0 O0 qU qF oA (own_Jb hn h1 h2).1 (own_Jb hn h1 h2).2.1 (own_Jb hn h1 h2).2.2.2.2.1 (own_getU hn h1 h2 hc).1 (own_Jb hn h1 h2).2.2.1 (own_Jb hn h1 h2).2.2.2.1 (own_Jb hn h1 h2).2.2.2.2.2.1 (own_getU hn h1 h2 hc).2 h1 (own_Jb hn h1 h2).2.2.2.2.2.2) hZ (hw _ (own_w 140 rfl)) (hw _ (own_w 26 rfl)) (by decide) (by decide)) (g := (mkF m 21 #[.val (.ref a1), .val (.int p2)] [(.int p2), (.ref vb)])) rfl (by rw [hml]; rfl) (argsL := [(.ref vb), (.int p2)]) (rest := []) (lenOf pd_6 rfl) rfl (by show 2 * 0 + _ ≤ _; exact Nat.le_of_eq rfl) (hb hby d13_21) (fun _ _ => ⟨rfl, e11, (by decide : 0 + 0 ≤ _), (by decide : 0 + 0 ≤ _)⟩)
    dsimp only [Pt.U, Pt.locs, Pt.cells, Pt.slots] at X13 l13 y13 z13 st13 hQ13
    subst l13 y13 z13
    obtain ⟨rfl, Nq13, eq13⟩ := hQ13
    have N13 := Fr.app N9 Nq13
    have pre14 : own_Go p e below S0 (T13.setTop (mkF m 24 #[.val (.ref a1), .val (.int p2)] [(.int (own_gc (nar .byte ((cx >>> ((0 : Int32) &&& 31)).toInt8.toInt32)) (nar .byte ((cx >>> ((8 : Int32) &&& 31)).toInt8.toInt32))))])) := by
      intro t kt
      refine pre12 t ?_
      refine st13 _ ?_
      show Steps p.tables e below (T13.setTop (mkF m 24 #[.val (.ref a1), .val (.int p2)] [(.int (own_gc (nar .byte ((cx >>> ((0 : Int32) &&& 31)).toInt8.toInt32)) (nar .byte ((cx >>> ((8 : Int32) &&& 31)).toInt8.toInt32))))])) _
      exact kt
    have hl : 0 ≤ cx.toInt ∧ cx.toInt < 65536 := by rw [← hc]; exact own_ChrAt cs _ oL (own_ixn hn h1 h2)
    obtain ⟨fs, hr, hrun, hended, hW, hsame⟩ := X13.leave (v := some (.int (nar .char (own_gc (nar .byte ((cx >>> ((0 : Int32) &&& 31)).toInt8.toInt32)) (nar .byte ((cx >>> ((8 : Int32) &&& 31)).toInt8.toInt32)))))) (fun h => by rw [Bd.returns] at h; cases h)
    refine ⟨_, _, fin _ (pre14 _ ?_), hrun, hended, _, _, rfl, ?_, ⟨_, rfl⟩, hW, hsame.mono (by decide) (by decide)⟩
    · exact retN X13 hx (t := .char) Bd.returns (by simp) (hb hby d13_24) hr
    · show QcharAt Z a1 p2 wC wF vb kb cs cx h0 n0 _ T13.heap _
      rw [eq13]
      exact ⟨(by show some (Value.int (nar .char _)) = _; rw [own_utfget cx hl, own_narChar cx hl.1 (by omega)]), N13, rfl⟩

theorem d10_0 : decode jdk_42_method_55_code 0 = .ok (.aload_n 0, 1) := by decide +kernel
theorem d10_1 : decode jdk_42_method_55_code 1 = .ok (.getfield 9, 3) := by decide +kernel
theorem d10_4 : decode jdk_42_method_55_code 4 = .ok (.arraylength, 1) := by decide +kernel
theorem d10_5 : decode jdk_42_method_55_code 5 = .ok (.ifCond .ne 7, 3) := by decide +kernel
theorem d10_8 : decode jdk_42_method_55_code 8 = .ok (.iconst 1, 1) := by decide +kernel
theorem d10_9 : decode jdk_42_method_55_code 9 = .ok (.goto 4, 3) := by decide +kernel
theorem d10_13 : decode jdk_42_method_55_code 13 = .ok (.ireturn, 1) := by decide +kernel
theorem pn_10 : plainName "java/lang/String" = true := by first | (simp [plainName, overriddenIn]; done) | decide +kernel
theorem ef_empty_0 (m : MethodId) (x0 : Addr) : entryFrame m #[(.ref x0)] 1 = mkF m 0 #[.val (.ref x0)] [] := by first | (simp [entryFrame, mkF, argsToLocals, Value.category]; done) | rfl
def Qempty_0 (Z : State) (a1 : Addr) (vb : Addr) (kb : ClassId) (h0 : Heap) (n0 : Nat) (v : Option Value) (h : Heap) (L : List Loc) : Prop := v = (some (.int 1)) ∧ Fr n0 L ∧ h = h0
set_option maxRecDepth 65536 in
set_option maxHeartbeats 40000000 in
theorem rmempty_0 (l : Launch) (Z : State) (a0 : Array Value) (hw : ∀ d ∈ tables_1, d.before a0 Z = true) (ws : List Jvm.Cond) (a1 : Addr) (vb : Addr) (kb : ClassId) (h0 : Heap) (n0 : Nat) (Z0 : n0 ≤ h0.size) (hS : own_Str Z h0 a1 vb kb []) :
    MetFree l own_m13 (head1 (Jvm.Cond.code own_m13 jdk_42_method_55_code 1 (some .boolean) :: ws) (own_r 0 0 0 0)) (fun a U => a = #[(.ref a1)] ∧ Z.Warmed39 U.vm ∧ U.heap = h0) (fun _ _ _ _ _ => True) (fun _ U o U' => ∃ v L, o = .returned v ∧ Qempty_0 Z a1 vb kb h0 n0 v U'.heap L ∧ FrameEnd U o U' L (own_r 0 0 0 0).cells (own_r 0 0 0 0).slots) := by
  refine MetFree.of_bodySF (plainFor_of_name pn_10) hisR ?_
  intro p e s m args below meth c s₁ Bd hml0 hP hK
  obtain ⟨rfl, hZ, hh⟩ := hP
  have hx := Bd.exec
  have hby := Bd.bytes
  have hml : c.maxLocals = 1 := hml0
  have hown0 := findClass_of_methodNamed Bd.named
  have hown : s.vm.findClass "java/lang/String" = some m.cls := hown0
  have hnm := (name_of_methodNamed Bd.named Bd.method).1
  have X0 : Stand p l e (own_r 0 0 0 0) s m #[(.ref a1)] below meth c s₁ [] 0 0 := Stand.of_body Bd
  have e0 : s₁.heap = h0 := by rw [← hh, Bd.state]; rfl
  have N0 := Fr.nil n0
  obtain ⟨S0, hS0⟩ : ∃ z, z = s₁.setTop (entryFrame m #[(.ref a1)] 1) := ⟨_, rfl⟩
  have pre0 : own_Go p e below S0 (s₁.setTop (mkF m 0 #[.val (.ref a1)] [])) := fun t k => by rw [hS0]; exact castTop (ef_empty_0 m a1) k
  have fin : ∀ t, Steps p.tables e below S0 t → Steps p.tables e below (s₁.setTop (entryFrame m #[(.ref a1)] 1)) t := fun t k => by rw [hS0] at k; exact k
  obtain ⟨oE, oV, ⟨oK, oL, oA⟩ | ⟨oK, oL, oA⟩⟩ := hS
  · have oB : Arv Z h0 vb kb .byte (0 : Int32) [] (.int 0) := oA
    have pre1 : own_Go p e below S0 (s₁.setTop (mkF m 1 #[.val (.ref a1)] [(.ref a1)])) := by
      intro t kt
      refine pre0 t ?_
      refine XS.aloadN X0.here hx rfl (hb hby d10_0) rfl rfl ?_
      exact kt
    obtain ⟨T2, X2, e2, st2⟩ := getF X0 hx hZ hown (host := "") (Or.inl (hw _ (own_w 37 rfl))) Via.refl e0 oV (g := (mkF m 1 #[.val (.ref a1)] [(.ref a1)])) rfl rfl (hb hby d10_1)
    have pre3 : own_Go p e below S0 (T2.setTop (mkF m 4 #[.val (.ref a1)] [(.ref vb)])) := by
      intro t kt
      refine pre1 t ?_
      refine st2 _ ?_
      exact kt
    obtain ⟨cl4, Ar4, -, Sz4, Ng4, -, -⟩ := id oB
    have pre5 : own_Go p e below S0 (T2.setTop (mkF m 13 #[.val (.ref a1)] [(.int 1)])) := by
      intro t kt
      refine pre3 t ?_
      refine X2.arraylength hx (by rw [e2]; exact Ar4.1) (State.isArrayOf_alike hZ.alike Ar4.2.1) (g := (mkF m 4 #[.val (.ref a1)] [(.ref vb)])) rfl rfl (hb hby d10_4) _ ?_
      rw [len_of Sz4 Ng4]
      show Steps p.tables e below (T2.setTop (mkF m 5 #[.val (.ref a1)] [(.int 0)])) _
      refine XS.ifNo X2.here hx rfl (hb hby d10_5) rfl ((if0 _ _).trans (teq (by decide : (0 : Int32) = (0 : Int32))).2) ?_
      refine XS.iconst X2.here hx rfl (hb hby d10_8) ?_
      refine XS.goto X2.here hx rfl (pc0 := 9) (pc' := 13) rfl (hb hby d10_9) (by decide) (by decide) ?_
      exact kt
    obtain ⟨fs, hr, hrun, hended, hW, hsame⟩ := X2.leave (v := some (.int 1)) (fun h => by rw [Bd.returns] at h; cases h)
    refine ⟨_, _, fin _ (pre5 _ ?_), hrun, hended, _, _, rfl, ?_, ⟨_, rfl⟩, hW, hsame.mono (by decide) (by decide)⟩
    · exact retN X2 hx (t := .boolean) Bd.returns (by simp) (hb hby d10_13) hr
    · show Qempty_0 Z a1 vb kb h0 n0 _ T2.heap _
      rw [e2]
      exact ⟨rfl, N0, rfl⟩
  · have oB : Arv Z h0 vb kb .byte (0 : Int32) [] (.int 0) := oA
    have pre6 : own_Go p e below S0 (s₁.setTop (mkF m 1 #[.val (.ref a1)] [(.ref a1)])) := by
      intro t kt
      refine pre0 t ?_
      refine XS.aloadN X0.here hx rfl (hb hby d10_0) rfl rfl ?_
      exact kt
    obtain ⟨T7, X7, e7, st7⟩ := getF X0 hx hZ hown (host := "") (Or.inl (hw _ (own_w 37 rfl))) Via.refl e0 oV (g := (mkF m 1 #[.val (.ref a1)] [(.ref a1)])) rfl rfl (hb hby d10_1)
    have pre8 : own_Go p e below S0 (T7.setTop (mkF m 4 #[.val (.ref a1)] [(.ref vb)])) := by
      intro t kt
      refine pre6 t ?_
      refine st7 _ ?_
      exact kt
    obtain ⟨cl9, Ar9, -, Sz9, Ng9, -, -⟩ := id oB
    have pre10 : own_Go p e below S0 (T7.setTop (mkF m 13 #[.val (.ref a1)] [(.int 1)])) := by
      intro t kt
      refine pre8 t ?_
      refine X7.arraylength hx (by rw [e7]; exact Ar9.1) (State.isArrayOf_alike hZ.alike Ar9.2.1) (g := (mkF m 4 #[.val (.ref a1)] [(.ref vb)])) rfl rfl (hb hby d10_4) _ ?_
      rw [len_of Sz9 Ng9]
      show Steps p.tables e below (T7.setTop (mkF m 5 #[.val (.ref a1)] [(.int 0)])) _
      refine XS.ifNo X7.here hx rfl (hb hby d10_5) rfl ((if0 _ _).trans (teq (by decide : (0 : Int32) = (0 : Int32))).2) ?_
      refine XS.iconst X7.here hx rfl (hb hby d10_8) ?_
      refine XS.goto X7.here hx rfl (pc0 := 9) (pc' := 13) rfl (hb hby d10_9) (by decide) (by decide) ?_
      exact kt
    obtain ⟨fs, hr, hrun, hended, hW, hsame⟩ := X7.leave (v := some (.int 1)) (fun h => by rw [Bd.returns] at h; cases h)
    refine ⟨_, _, fin _ (pre10 _ ?_), hrun, hended, _, _, rfl, ?_, ⟨_, rfl⟩, hW, hsame.mono (by decide) (by decide)⟩
    · exact retN X7 hx (t := .boolean) Bd.returns (by simp) (hb hby d10_13) hr
    · show Qempty_0 Z a1 vb kb h0 n0 _ T7.heap _
      rw [e7]
      exact ⟨rfl, N0, rfl⟩

theorem d10_12 : decode jdk_42_method_55_code 12 = .ok (.iconst 0, 1) := by decide +kernel
theorem ef_empty_n (m : MethodId) (x0 : Addr) : entryFrame m #[(.ref x0)] 1 = mkF m 0 #[.val (.ref x0)] [] := by first | (simp [entryFrame, mkF, argsToLocals, Value.category]; done) | rfl
def Qempty_n (Z : State) (a1 : Addr) (vb : Addr) (kb : ClassId) (cs : List Int32) (h0 : Heap) (n0 : Nat) (v : Option Value) (h : Heap) (L : List Loc) : Prop := v = (some (.int 0)) ∧ Fr n0 L ∧ h = h0
set_option maxRecDepth 65536 in
set_option maxHeartbeats 40000000 in
theorem rmempty_n (l : Launch) (Z : State) (a0 : Array Value) (hw : ∀ d ∈ tables_1, d.before a0 Z = true) (ws : List Jvm.Cond) (a1 : Addr) (vb : Addr) (kb : ClassId) (cs : List Int32) (h0 : Heap) (n0 : Nat) (Z0 : n0 ≤ h0.size) (hS : own_Str Z h0 a1 vb kb cs) (hz1 : (¬ (own_len cs) = (0 : Int32))) (hz2 : (¬ (own_len2 cs) = (0 : Int32))) :
    MetFree l own_m13 (head1 (Jvm.Cond.code own_m13 jdk_42_method_55_code 1 (some .boolean) :: ws) (own_r 0 0 0 0)) (fun a U => a = #[(.ref a1)] ∧ Z.Warmed39 U.vm ∧ U.heap = h0) (fun _ _ _ _ _ => True) (fun _ U o U' => ∃ v L, o = .returned v ∧ Qempty_n Z a1 vb kb cs h0 n0 v U'.heap L ∧ FrameEnd U o U' L (own_r 0 0 0 0).cells (own_r 0 0 0 0).slots) := by
  refine MetFree.of_bodySF (plainFor_of_name pn_10) hisR ?_
  intro p e s m args below meth c s₁ Bd hml0 hP hK
  obtain ⟨rfl, hZ, hh⟩ := hP
  have hx := Bd.exec
  have hby := Bd.bytes
  have hml : c.maxLocals = 1 := hml0
  have hown0 := findClass_of_methodNamed Bd.named
  have hown : s.vm.findClass "java/lang/String" = some m.cls := hown0
  have hnm := (name_of_methodNamed Bd.named Bd.method).1
  have X0 : Stand p l e (own_r 0 0 0 0) s m #[(.ref a1)] below meth c s₁ [] 0 0 := Stand.of_body Bd
  have e0 : s₁.heap = h0 := by rw [← hh, Bd.state]; rfl
  have N0 := Fr.nil n0
  obtain ⟨S0, hS0⟩ : ∃ z, z = s₁.setTop (entryFrame m #[(.ref a1)] 1) := ⟨_, rfl⟩
  have pre0 : own_Go p e below S0 (s₁.setTop (mkF m 0 #[.val (.ref a1)] [])) := fun t k => by rw [hS0]; exact castTop (ef_empty_n m a1) k
  have fin : ∀ t, Steps p.tables e below S0 t → Steps p.tables e below (s₁.setTop (entryFrame m #[(.ref a1)] 1)) t := fun t k => by rw [hS0] at k; exact k
  obtain ⟨oE, oV, ⟨oK, oL, oA⟩ | ⟨oK, oL, oA⟩⟩ := hS
  · have pre1 : own_Go p e below S0 (s₁.setTop (mkF m 1 #[.val (.ref a1)] [(.ref a1)])) := by
      intro t kt
      refine pre0 t ?_
      refine XS.aloadN X0.here hx rfl (hb hby d10_0) rfl rfl ?_
      exact kt
    obtain ⟨T2, X2, e2, st2⟩ := getF X0 hx hZ hown (host := "") (Or.inl (hw _ (own_w 37 rfl))) Via.refl e0 oV (g := (mkF m 1 #[.val (.ref a1)] [(.ref a1)])) rfl rfl (hb hby d10_1)
    have pre3 : own_Go p e below S0 (T2.setTop (mkF m 4 #[.val (.ref a1)] [(.ref vb)])) := by
      intro t kt
      refine pre1 t ?_
      refine st2 _ ?_
      exact kt
    obtain ⟨cl4, Ar4, -, Sz4, Ng4, -, -⟩ := id oA
    have pre5 : own_Go p e below S0 (T2.setTop (mkF m 13 #[.val (.ref a1)] [(.int 0)])) := by
      intro t kt
      refine pre3 t ?_
      refine X2.arraylength hx (by rw [e2]; exact Ar4.1) (State.isArrayOf_alike hZ.alike Ar4.2.1) (g := (mkF m 4 #[.val (.ref a1)] [(.ref vb)])) rfl rfl (hb hby d10_4) _ ?_
      rw [len_of Sz4 Ng4]
      show Steps p.tables e below (T2.setTop (mkF m 5 #[.val (.ref a1)] [(.int (own_len cs))])) _
      refine XS.ifYes X2.here hx rfl (pc0 := 5) (pc' := 12) rfl (hb hby d10_5) rfl ((if0 _ _).trans (feq hz1).2) (by decide) (by decide) ?_
      refine XS.iconst X2.here hx rfl (hb hby d10_12) ?_
      exact kt
    obtain ⟨fs, hr, hrun, hended, hW, hsame⟩ := X2.leave (v := some (.int 0)) (fun h => by rw [Bd.returns] at h; cases h)
    refine ⟨_, _, fin _ (pre5 _ ?_), hrun, hended, _, _, rfl, ?_, ⟨_, rfl⟩, hW, hsame.mono (by decide) (by decide)⟩
    · exact retN X2 hx (t := .boolean) Bd.returns (by simp) (hb hby d10_13) hr
    · show Qempty_n Z a1 vb kb cs h0 n0 _ T2.heap _
      rw [e2]
      exact ⟨rfl, N0, rfl⟩
  · have pre6 : own_Go p e below S0 (s₁.setTop (mkF m 1 #[.val (.ref a1)] [(.ref a1)])) := by
      intro t kt
      refine pre0 t ?_
      refine XS.aloadN X0.here hx rfl (hb hby d10_0) rfl rfl ?_
      exact kt
    obtain ⟨T7, X7, e7, st7⟩ := getF X0 hx hZ hown (host := "") (Or.inl (hw _ (own_w 37 rfl))) Via.refl e0 oV (g := (mkF m 1 #[.val (.ref a1)] [(.ref a1)])) rfl rfl (hb hby d10_1)
    have pre8 : own_Go p e below S0 (T7.setTop (mkF m 4 #[.val (.ref a1)] [(.ref vb)])) := by
      intro t kt
      refine pre6 t ?_
      refine st7 _ ?_
      exact kt
    obtain ⟨cl9, Ar9, -, Sz9, Ng9, -, -⟩ := id oA
    have pre10 : own_Go p e below S0 (T7.setTop (mkF m 13 #[.val (.ref a1)] [(.int 0)])) := by
      intro t kt
      refine pre8 t ?_
      refine X7.arraylength hx (by rw [e7]; exact Ar9.1) (State.isArrayOf_alike hZ.alike Ar9.2.1) (g := (mkF m 4 #[.val (.ref a1)] [(.ref vb)])) rfl rfl (hb hby d10_4) _ ?_
      rw [len_of Sz9 Ng9]
      show Steps p.tables e below (T7.setTop (mkF m 5 #[.val (.ref a1)] [(.int (own_len2 cs))])) _
      refine XS.ifYes X7.here hx rfl (pc0 := 5) (pc' := 12) rfl (hb hby d10_5) rfl ((if0 _ _).trans (feq hz2).2) (by decide) (by decide) ?_
      refine XS.iconst X7.here hx rfl (hb hby d10_12) ?_
      exact kt
    obtain ⟨fs, hr, hrun, hended, hW, hsame⟩ := X7.leave (v := some (.int 0)) (fun h => by rw [Bd.returns] at h; cases h)
    refine ⟨_, _, fin _ (pre10 _ ?_), hrun, hended, _, _, rfl, ?_, ⟨_, rfl⟩, hW, hsame.mono (by decide) (by decide)⟩
    · exact retN X7 hx (t := .boolean) Bd.returns (by simp) (hb hby d10_13) hr
    · show Qempty_n Z a1 vb kb cs h0 n0 _ T7.heap _
      rw [e7]
      exact ⟨rfl, N0, rfl⟩

theorem d1_0 : decode method_3_code 0 = .ok (.iload_n 0, 1) := by decide +kernel
theorem d1_1 : decode method_3_code 1 = .ok (.ifCond .ne 14, 3) := by decide +kernel
theorem d1_4 : decode method_3_code 4 = .ok (.new 35, 3) := by decide +kernel
theorem d1_7 : decode method_3_code 7 = .ok (.dup, 1) := by decide +kernel
theorem d1_8 : decode method_3_code 8 = .ok (.iconst 0, 1) := by decide +kernel
theorem d1_9 : decode method_3_code 9 = .ok (.newarray .char, 2) := by decide +kernel
theorem d1_11 : decode method_3_code 11 = .ok (.invokespecial 37, 3) := by decide +kernel
theorem d1_14 : decode method_3_code 14 = .ok (.areturn, 1) := by decide +kernel
theorem pn_1 : plainName "com/example/backplane/backplane/IdSyntaxIsValidPinLaw" = true := by first | (simp [plainName, overriddenIn]; done) | decide +kernel
theorem pd_14 : parseMethodDescriptor "([C)V" = some ⟨[(.array .char)], none⟩ := by decide +kernel
theorem ef_make0 (m : MethodId) (x1 : Int32) (x2 : Int32) (x3 : Int32) : entryFrame m #[(.int 0), (.int x1), (.int x2), (.int x3)] 4 = mkF m 0 #[.val (.int 0), .val (.int x1), .val (.int x2), .val (.int x3)] [] := by first | (simp [entryFrame, mkF, argsToLocals, Value.category]; done) | rfl
def Qmake0 (Z : State) (p2 : Int32) (p3 : Int32) (p4 : Int32) (h0 : Heap) (n0 : Nat) (v : Option Value) (h : Heap) (L : List Loc) : Prop := ∃ b : Addr, ∃ vb : Addr, ∃ kb : ClassId, v = (some (.ref b)) ∧ Fr n0 L ∧ Keep h0 h [] ∧ h0.size ≤ b ∧ own_Str Z h b vb kb []
set_option maxRecDepth 65536 in
set_option maxHeartbeats 40000000 in
theorem rmmake0 (l : Launch) (Z : State) (a0 : Array Value) (hw : ∀ d ∈ tables_1, d.before a0 Z = true) (ws : List Jvm.Cond) (p2 : Int32) (p3 : Int32) (p4 : Int32) (h0 : Heap) (n0 : Nat) (Z0 : n0 ≤ h0.size) (O0 : Old Z n0 h0) :
    MetFree l own_m3 (head1 (Jvm.Cond.code own_m3 method_3_code 4 (some (.object "java/lang/String")) :: ws) (own_r 3 4 8 43)) (fun a U => a = #[(.int 0), (.int p2), (.int p3), (.int p4)] ∧ Z.Warmed39 U.vm ∧ U.heap = h0 ∧ CHv Z own_EL U.vm h0 ∧ ∀ x ∈ ([] : List Addr), Safe Z own_EL U.vm h0 x) (fun _ _ _ _ _ => True) (fun _ U o U' => ∃ v L, o = .returned v ∧ Qmake0 Z p2 p3 p4 h0 n0 v U'.heap L ∧ CHr Z own_EL U.vm U.heap U'.vm U'.heap ∧ ReturnedEndW U o U' L (own_r 3 4 8 43).cells (own_r 3 4 8 43).slots) := by
  refine MetFree.of_bodySF (plainFor_of_name pn_1) hisR ?_
  intro p e s m args below meth c s₁ Bd hml0 hP hK
  obtain ⟨rfl, hZ, hh, hCH, hSF⟩ := hP
  have hx := Bd.exec
  have hby := Bd.bytes
  have hml : c.maxLocals = 4 := hml0
  have hown0 := findClass_of_methodNamed Bd.named
  have hown : s.vm.findClass "com/example/backplane/backplane/IdSyntaxIsValidPinLaw" = some m.cls := hown0
  have hnm := (name_of_methodNamed Bd.named Bd.method).1
  have X0 : Stand p l e (own_r 3 4 8 43) s m #[(.int 0), (.int p2), (.int p3), (.int p4)] below meth c s₁ [] 0 0 := Stand.of_body Bd
  have e0 : s₁.heap = h0 := by rw [← hh, Bd.state]; rfl
  have N0 := Fr.nil n0
  obtain ⟨S0, hS0⟩ : ∃ z, z = s₁.setTop (entryFrame m #[(.int 0), (.int p2), (.int p3), (.int p4)] 4) := ⟨_, rfl⟩
  have pre0 : own_Go p e below S0 (s₁.setTop (mkF m 0 #[.val (.int 0), .val (.int p2), .val (.int p3), .val (.int p4)] [])) := fun t k => by rw [hS0]; exact castTop (ef_make0 m p2 p3 p4) k
  have fin : ∀ t, Steps p.tables e below S0 t → Steps p.tables e below (s₁.setTop (entryFrame m #[(.int 0), (.int p2), (.int p3), (.int p4)] 4)) t := fun t k => by rw [hS0] at k; exact k
  have ch0 : CHr Z own_EL s.vm h0 s.vm h0 := CHr.refl hCH
  have kc0 : Keep h0 h0 [] := Keep.refl _ _
  have pre1 : own_Go p e below S0 (s₁.setTop (mkF m 4 #[.val (.int 0), .val (.int p2), .val (.int p3), .val (.int p4)] [])) := by
    intro t kt
    refine pre0 t ?_
    refine XS.iloadN X0.here hx rfl (hb hby d1_0) rfl ?_
    refine XS.ifNo X0.here hx rfl (hb hby d1_1) rfl ((if0 _ _).trans (teq (by decide : (0 : Int32) = (0 : Int32))).2) ?_
    exact kt
  obtain ⟨T2, h2, X2, e2, E2, A2, D2, -, st2⟩ := newO X0 hx hZ hown (hw _ (own_w 9 rfl)) (hw _ (own_w 10 rfl)) (hw _ (own_w 11 rfl)) e0 (g := (mkF m 4 #[.val (.int 0), .val (.int p2), .val (.int p3), .val (.int p4)] [])) rfl (hb hby d1_4) (by decide) (by decide)
  obtain ⟨b2, g2⟩ : ∃ z, z = h0.size := ⟨_, rfl⟩
  rw [← g2] at A2 D2 st2
  have ge3 : n0 ≤ b2 := Nat.le_trans Z0 (Nat.le_of_eq g2.symm)
  have sf4 : Safe Z own_EL s.vm h0 b2 := Safe.new (Nat.le_of_eq g2.symm)
  have sz5 : h0.size ≤ b2 := Nat.le_trans kc0.1 (Nat.le_of_eq g2.symm)
  have zs6 : n0 ≤ h2.size := Nat.le_trans Z0 E2.1
  have kc7 : Keep h0 h2 [] := kc0.ext E2
  have ch8 : CHr Z own_EL s.vm h0 s.vm h2 := ch0.trans (CHr.ext E2 ch0.1)
  have sf9 : Safe Z own_EL s.vm h2 b2 := Safe.ext E2 ch0.1 sf4
  have fd10 : Fld Z h2 b2 "java/lang/String" "coder" "B" (.int 0) := D2 (Or.inr (hw _ (own_w 36 rfl))) (ty := .byte) (by decide)
  have fd11 : Fld Z h2 b2 "java/lang/String" "value" "[B" .null := D2 (Or.inr (hw _ (own_w 38 rfl))) (ty := (.array .byte)) (by decide)
  have pre12 : own_Go p e below S0 (T2.setTop (mkF m 9 #[.val (.int 0), .val (.int p2), .val (.int p3), .val (.int p4)] [(.int 0), (.ref b2), (.ref b2)])) := by
    intro t kt
    refine pre1 t ?_
    refine st2 _ ?_
    refine XS.dup X2.here hx rfl (hb hby d1_7) rfl rfl ?_
    refine XS.iconst X2.here hx rfl (hb hby d1_8) ?_
    exact kt
  obtain ⟨T13, h13, k13, X13, e13, E13, A13, st13⟩ := newP X2 hx hZ (hw _ (own_w 12 rfl)) e2 (g := (mkF m 9 #[.val (.int 0), .val (.int p2), .val (.int p3), .val (.int p4)] [(.int 0), (.ref b2), (.ref b2)])) rfl (hb hby d1_9) rfl (by decide) (cap := 0) (by decide) (by decide) (by decide) (by decide)
  obtain ⟨b13, g13⟩ : ∃ z, z = h2.size := ⟨_, rfl⟩
  rw [← g13] at A13 st13
  have ne14 : b2 ≠ b13 := Nat.ne_of_lt (Nat.lt_of_lt_of_le A2.lt (Nat.le_of_eq g13.symm))
  have ge15 : n0 ≤ b13 := Nat.le_trans zs6 (Nat.le_of_eq g13.symm)
  have sf16 : Safe Z own_EL s.vm h2 b13 := Safe.new (Nat.le_of_eq g13.symm)
  have sz17 : h0.size ≤ b13 := Nat.le_trans kc7.1 (Nat.le_of_eq g13.symm)
  have zs18 : n0 ≤ h13.size := Nat.le_trans zs6 E13.1
  have kc19 : Keep h0 h13 [] := kc7.ext E13
  have ch20 : CHr Z own_EL s.vm h0 s.vm h13 := ch8.trans (CHr.ext E13 ch8.1)
  have sf21 : Safe Z own_EL s.vm h13 b2 := Safe.ext E13 ch8.1 sf9
  have sf22 : Safe Z own_EL s.vm h13 b13 := Safe.ext E13 ch8.1 sf16
  have V13 : Arv Z h13 b13 k13 .char (0 : Int32) [] (.int 0) := (Arv.new A13 (by decide)).pad (pad_rep [] (.int 0) 0)
  have pre23 : own_Go p e below S0 (T13.setTop (mkF m 11 #[.val (.int 0), .val (.int p2), .val (.int p3), .val (.int p4)] [(.ref b13), (.ref b2), (.ref b2)])) := by
    intro t kt
    refine pre12 t ?_
    refine st13 _ ?_
    exact kt
  have f24 : Old Z n0 h13 := ((O0.ext E2).ext E13)
  have f25 : Exa Z h13 b2 "java/lang/String" := (A2.ext E13)
  have f26 : Fld Z h13 b2 "java/lang/String" "value" "[B" .null := (fd11.ext E13)
  have f27 : Fld Z h13 b2 "java/lang/String" "coder" "B" (.int 0) := (fd10.ext E13)
  obtain ⟨_, _, ⟨T28, L28, k28, n28⟩, -, X28, hSn28, hgn28, ⟨Lc28, hQ28, l28, y28, z28, cr28⟩, st28⟩ := X13.specialBackS hx (y := own_m6) rfl hown (mvT hZ (hw _ (own_w 13 rfl))) (mvT hZ (hw _ (own_w 14 rfl))) (mvT hZ (hw _ (own_w 15 rfl))) (by decide) (own_backH (s := s) (vm0 := s.vm) (W := 1) (rminit1_0 l Z a0 hw [] b2 b13 k13 h13 n0 zs18 f24 f25 f26 f27 ge3 V13) hZ (hw _ (own_w 15 rfl)) (hw _ (own_w 11 rfl)) (by decide) (by decide) (own_EW a0 Z hw) ch20.1 (allS sf21 all0) (allS f25.lt all0)) (g := (mkF m 11 #[.val (.int 0), .val (.int p2), .val (.int p3), .val (.int p4)] [(.ref b13), (.ref b2), (.ref b2)])) rfl (by rw [hml]; rfl) (Steps.refl _) (a := b2) (argsL := [(.ref b13)]) (rest := [(.ref b2)]) (lenOf pd_14 rfl) rfl (by show 2 * 0 + _ ≤ _; exact Nat.le_of_eq rfl) (hb hby d1_11) (fun _ _ => ⟨rfl, e13, (by decide : 2 + 2 ≤ _), (by decide : 4 + 4 ≤ _)⟩)
  dsimp only [Pt.U, Pt.locs, Pt.cells, Pt.slots] at X28 l28 y28 z28 st28 hQ28 hSn28 hgn28 cr28
  subst l28 y28 z28
  have hown := own_fc hown hSn28.1
  have hZ : Z.Warmed39 (s.setVm T28.vm).vm := State.Warmed39.trans (t := s) hZ hSn28.1
  obtain ⟨vb29, kb30, rfl, Nq28, K28, g31⟩ := hQ28
  have N28 := Fr.app N0 Nq28
  have zs32 : n0 ≤ T28.heap.size := Nat.le_trans zs18 K28.1
  have kc33 : Keep h0 T28.heap [] := kc19.trans K28 (allS (Or.inr sz5) all0)
  have ch34 : CHr Z own_EL s.vm h0 T28.vm T28.heap := ch20.trans (cr28)
  have sf35 : Safe Z own_EL T28.vm T28.heap b2 := cr28.safe f25.lt sf21
  have sf36 : Safe Z own_EL T28.vm T28.heap b13 := cr28.safe V13.lt sf22
  have pre37 : own_Go p e below S0 (T28.setTop (mkF m 14 #[.val (.int 0), .val (.int p2), .val (.int p3), .val (.int p4)] [(.ref b2)])) := by
    intro t kt
    refine pre23 t ?_
    refine st28.trans ?_
    show Steps p.tables e below (T28.setTop (mkF m 14 #[.val (.int 0), .val (.int p2), .val (.int p3), .val (.int p4)] [(.ref b2)])) _
    exact kt
  obtain ⟨fs, hr, hrun, hended, hRW⟩ := Stand.leaveW (s := s) (vm₁ := T28.vm) X28 hSn28 (Nat.le_refl _) (v := some (.ref b2)) (fun h => by rw [Bd.returns] at h; cases h)
  refine ⟨_, _, fin _ (pre37 _ ?_), hrun, hended, _, _, rfl, ?_, (by rw [hh]; show CHr Z own_EL s.vm h0 T28.vm T28.heap; exact ch34.trans (CHv.at (s := s) (vm0 := T28.vm) X28 hZ (own_EW a0 Z hw) ch34.1)), own_wideMono hRW (by decide) (by decide)⟩
  · jvm_step X28.here [X28.here.top, hx, (hb hby d1_14), X28.method', Bd.returns, Value.isRef, FieldType.isReference]
    first | (intro acts; rw [hr _ acts rfl rfl rfl]) | rw [hr _ _ rfl rfl rfl]
    exact Steps.refl _
  · show Qmake0 Z p2 p3 p4 h0 n0 _ T28.heap _
    exact ⟨b2, vb29, kb30, rfl, N28, kc33, sz5, g31⟩

theorem d1_15 : decode method_3_code 15 = .ok (.iload_n 0, 1) := by decide +kernel
theorem d1_16 : decode method_3_code 16 = .ok (.iconst 1, 1) := by decide +kernel
theorem d1_17 : decode method_3_code 17 = .ok (.if_icmp .ne 18, 3) := by decide +kernel
theorem d1_20 : decode method_3_code 20 = .ok (.new 35, 3) := by decide +kernel
theorem d1_23 : decode method_3_code 23 = .ok (.dup, 1) := by decide +kernel
theorem d1_24 : decode method_3_code 24 = .ok (.iconst 1, 1) := by decide +kernel
theorem d1_25 : decode method_3_code 25 = .ok (.newarray .char, 2) := by decide +kernel
theorem d1_27 : decode method_3_code 27 = .ok (.dup, 1) := by decide +kernel
theorem d1_28 : decode method_3_code 28 = .ok (.iconst 0, 1) := by decide +kernel
theorem d1_29 : decode method_3_code 29 = .ok (.iload_n 1, 1) := by decide +kernel
theorem d1_30 : decode method_3_code 30 = .ok (.castore, 1) := by decide +kernel
theorem d1_31 : decode method_3_code 31 = .ok (.invokespecial 37, 3) := by decide +kernel
theorem d1_34 : decode method_3_code 34 = .ok (.areturn, 1) := by decide +kernel
theorem ef_make1 (m : MethodId) (x1 : Int32) (x2 : Int32) (x3 : Int32) : entryFrame m #[(.int 1), (.int x1), (.int x2), (.int x3)] 4 = mkF m 0 #[.val (.int 1), .val (.int x1), .val (.int x2), .val (.int x3)] [] := by first | (simp [entryFrame, mkF, argsToLocals, Value.category]; done) | rfl
def Qmake1 (Z : State) (p2 : Int32) (p3 : Int32) (p4 : Int32) (wC : Int32) (h0 : Heap) (n0 : Nat) (v : Option Value) (h : Heap) (L : List Loc) : Prop := ∃ b : Addr, ∃ vb : Addr, ∃ kb : ClassId, v = (some (.ref b)) ∧ Fr n0 L ∧ Keep h0 h [] ∧ h0.size ≤ b ∧ h0.size ≤ vb ∧ own_Str Z h b vb kb [(nar .char p2)]
set_option maxRecDepth 65536 in
set_option maxHeartbeats 40000000 in
theorem rmmake1 (l : Launch) (Z : State) (a0 : Array Value) (hw : ∀ d ∈ tables_1, d.before a0 Z = true) (ws : List Jvm.Cond) (p2 : Int32) (p3 : Int32) (p4 : Int32) (wC : Int32) (h0 : Heap) (n0 : Nat) (Z0 : n0 ≤ h0.size) (O0 : Old Z n0 h0) (qC : (own_SC Z wC)) (qU : (own_SU Z)) :
    MetFree l own_m3 (head1 (Jvm.Cond.code own_m3 method_3_code 4 (some (.object "java/lang/String")) :: ws) (own_r 6 4 8 88)) (fun a U => a = #[(.int 1), (.int p2), (.int p3), (.int p4)] ∧ Z.Warmed39 U.vm ∧ U.heap = h0) (fun _ _ _ _ _ => True) (fun _ U o U' => ∃ v L, o = .returned v ∧ Qmake1 Z p2 p3 p4 wC h0 n0 v U'.heap L ∧ FrameEnd U o U' L (own_r 6 4 8 88).cells (own_r 6 4 8 88).slots) := by
  refine MetFree.of_bodySF (plainFor_of_name pn_1) hisR ?_
  intro p e s m args below meth c s₁ Bd hml0 hP hK
  obtain ⟨rfl, hZ, hh⟩ := hP
  have hx := Bd.exec
  have hby := Bd.bytes
  have hml : c.maxLocals = 4 := hml0
  have hown0 := findClass_of_methodNamed Bd.named
  have hown : s.vm.findClass "com/example/backplane/backplane/IdSyntaxIsValidPinLaw" = some m.cls := hown0
  have hnm := (name_of_methodNamed Bd.named Bd.method).1
  have X0 : Stand p l e (own_r 6 4 8 88) s m #[(.int 1), (.int p2), (.int p3), (.int p4)] below meth c s₁ [] 0 0 := Stand.of_body Bd
  have e0 : s₁.heap = h0 := by rw [← hh, Bd.state]; rfl
  have N0 := Fr.nil n0
  obtain ⟨S0, hS0⟩ : ∃ z, z = s₁.setTop (entryFrame m #[(.int 1), (.int p2), (.int p3), (.int p4)] 4) := ⟨_, rfl⟩
  have pre0 : own_Go p e below S0 (s₁.setTop (mkF m 0 #[.val (.int 1), .val (.int p2), .val (.int p3), .val (.int p4)] [])) := fun t k => by rw [hS0]; exact castTop (ef_make1 m p2 p3 p4) k
  have fin : ∀ t, Steps p.tables e below S0 t → Steps p.tables e below (s₁.setTop (entryFrame m #[(.int 1), (.int p2), (.int p3), (.int p4)] 4)) t := fun t k => by rw [hS0] at k; exact k
  have kc0 : Keep h0 h0 [] := Keep.refl _ _
  have pre1 : own_Go p e below S0 (s₁.setTop (mkF m 20 #[.val (.int 1), .val (.int p2), .val (.int p3), .val (.int p4)] [])) := by
    intro t kt
    refine pre0 t ?_
    refine XS.iloadN X0.here hx rfl (hb hby d1_0) rfl ?_
    refine XS.ifYes X0.here hx rfl (pc0 := 1) (pc' := 15) rfl (hb hby d1_1) rfl ((if0 _ _).trans (feq (by decide : ¬ ((1 : Int32) = (0 : Int32)))).2) (by decide) (by decide) ?_
    refine XS.iloadN X0.here hx rfl (hb hby d1_15) rfl ?_
    refine XS.iconst X0.here hx rfl (hb hby d1_16) ?_
    refine XS.icmpNo X0.here hx rfl (hb hby d1_17) rfl (teq (by decide : (1 : Int32) = (1 : Int32))).2 ?_
    exact kt
  obtain ⟨T2, h2, X2, e2, E2, A2, D2, -, st2⟩ := newO X0 hx hZ hown (hw _ (own_w 9 rfl)) (hw _ (own_w 10 rfl)) (hw _ (own_w 11 rfl)) e0 (g := (mkF m 20 #[.val (.int 1), .val (.int p2), .val (.int p3), .val (.int p4)] [])) rfl (hb hby d1_20) (by decide) (by decide)
  obtain ⟨b2, g2⟩ : ∃ z, z = h0.size := ⟨_, rfl⟩
  rw [← g2] at A2 D2 st2
  have ge3 : n0 ≤ b2 := Nat.le_trans Z0 (Nat.le_of_eq g2.symm)
  have sz4 : h0.size ≤ b2 := Nat.le_trans kc0.1 (Nat.le_of_eq g2.symm)
  have zs5 : n0 ≤ h2.size := Nat.le_trans Z0 E2.1
  have kc6 : Keep h0 h2 [] := kc0.ext E2
  have fd7 : Fld Z h2 b2 "java/lang/String" "coder" "B" (.int 0) := D2 (Or.inr (hw _ (own_w 36 rfl))) (ty := .byte) (by decide)
  have fd8 : Fld Z h2 b2 "java/lang/String" "value" "[B" .null := D2 (Or.inr (hw _ (own_w 38 rfl))) (ty := (.array .byte)) (by decide)
  have pre9 : own_Go p e below S0 (T2.setTop (mkF m 25 #[.val (.int 1), .val (.int p2), .val (.int p3), .val (.int p4)] [(.int 1), (.ref b2), (.ref b2)])) := by
    intro t kt
    refine pre1 t ?_
    refine st2 _ ?_
    refine XS.dup X2.here hx rfl (hb hby d1_23) rfl rfl ?_
    refine XS.iconst X2.here hx rfl (hb hby d1_24) ?_
    exact kt
  obtain ⟨T10, h10, k10, X10, e10, E10, A10, st10⟩ := newP X2 hx hZ (hw _ (own_w 12 rfl)) e2 (g := (mkF m 25 #[.val (.int 1), .val (.int p2), .val (.int p3), .val (.int p4)] [(.int 1), (.ref b2), (.ref b2)])) rfl (hb hby d1_25) rfl (by decide) (cap := 1) (by decide) (by decide) (by decide) (by decide)
  obtain ⟨b10, g10⟩ : ∃ z, z = h2.size := ⟨_, rfl⟩
  rw [← g10] at A10 st10
  have ne11 : b2 ≠ b10 := Nat.ne_of_lt (Nat.lt_of_lt_of_le A2.lt (Nat.le_of_eq g10.symm))
  have ge12 : n0 ≤ b10 := Nat.le_trans zs5 (Nat.le_of_eq g10.symm)
  have sz13 : h0.size ≤ b10 := Nat.le_trans kc6.1 (Nat.le_of_eq g10.symm)
  have zs14 : n0 ≤ h10.size := Nat.le_trans zs5 E10.1
  have kc15 : Keep h0 h10 [] := kc6.ext E10
  have V10 : Arv Z h10 b10 k10 .char (1 : Int32) [(.int 0)] (.int 0) := (Arv.new A10 (by decide)).pad (pad_rep [] (.int 0) 1)
  have pre16 : own_Go p e below S0 (T10.setTop (mkF m 30 #[.val (.int 1), .val (.int p2), .val (.int p3), .val (.int p4)] [(.int p2), (.int 0), (.ref b10), (.ref b10), (.ref b2), (.ref b2)])) := by
    intro t kt
    refine pre9 t ?_
    refine st10 _ ?_
    refine XS.dup X10.here hx rfl (hb hby d1_27) rfl rfl ?_
    refine XS.iconst X10.here hx rfl (hb hby d1_28) ?_
    refine XS.iloadN X10.here hx rfl (hb hby d1_29) rfl ?_
    exact kt
  obtain ⟨cl17, Ar17, q17, Sz17, Ng17, Hs17, Gt17⟩ := id V10
  have hin17 : ¬ ((0 : Int32) < 0 ∨ cl17.slots.size ≤ ((0 : Int32)).toNatClampNeg) := inb_of Sz17 ⟨by decide, by decide⟩
  obtain ⟨T17, h17, X17, e17, W17, st17⟩ := stC X10 hx hZ e10 Ar17 (j := (0 : Int32)) hin17 (g := (mkF m 30 #[.val (.int 1), .val (.int p2), .val (.int p3), .val (.int p4)] [(.int p2), (.int 0), (.ref b10), (.ref b10), (.ref b2), (.ref b2)])) rfl rfl (hb hby d1_30)
  have N17 := Fr.snoc X17 N0 ge12
  have zs18 : n0 ≤ h17.size := Nat.le_trans zs14 (Keep.of_wr W17).1
  have kc19 : Keep h0 h17 [] := kc15.wr W17 (Or.inr sz13)
  have V17 : Arv Z h17 b10 k10 .char (1 : Int32) [(.int (nar .char p2))] (.int 0) := Arv.set Ar17 q17 Sz17 Ng17 Hs17 Gt17 (fits_nar_char _) W17 0 rfl (Nat.le_of_ble_eq_true rfl)
  have pre20 : own_Go p e below S0 (T17.setTop (mkF m 31 #[.val (.int 1), .val (.int p2), .val (.int p3), .val (.int p4)] [(.ref b10), (.ref b2), (.ref b2)])) := by
    intro t kt
    refine pre16 t ?_
    refine st17 _ ?_
    exact kt
  have f21 : Old Z n0 h17 := (((O0.ext E2).ext E10).wr W17 ge12)
  have f22 : Exa Z h17 b2 "java/lang/String" := ((A2.ext E10).wr W17)
  have f23 : Fld Z h17 b2 "java/lang/String" "value" "[B" .null := ((fd8.ext E10).other W17 (Or.inl ne11))
  have f24 : Fld Z h17 b2 "java/lang/String" "coder" "B" (.int 0) := ((fd7.ext E10).other W17 (Or.inl ne11))
  obtain ⟨_, _, ⟨T25, L25, k25, n25⟩, -, X25, ⟨Lc25, hQ25, l25, y25, z25⟩, st25⟩ := X17.specialBack hx (y := own_m6) rfl hown (mvT hZ (hw _ (own_w 13 rfl))) (mvT hZ (hw _ (own_w 14 rfl))) (mvT hZ (hw _ (own_w 15 rfl))) (by decide) (backOf (W := 1) (rminit1_1 l Z a0 hw [] b2 b10 k10 (nar .char p2) wC h17 n0 zs18 f21 qC qU f22 f23 f24 ge3 V17) hZ (hw _ (own_w 15 rfl)) (hw _ (own_w 11 rfl)) (by decide) (by decide)) (g := (mkF m 31 #[.val (.int 1), .val (.int p2), .val (.int p3), .val (.int p4)] [(.ref b10), (.ref b2), (.ref b2)])) rfl (by rw [hml]; rfl) (Steps.refl _) (a := b2) (argsL := [(.ref b10)]) (rest := [(.ref b2)]) (lenOf pd_14 rfl) rfl (by show 2 * 0 + _ ≤ _; exact Nat.le_of_eq rfl) (hb hby d1_31) (fun _ _ => ⟨rfl, e17, (by decide : 2 + 2 ≤ _), (by decide : 5 + 3 ≤ _)⟩)
  dsimp only [Pt.U, Pt.locs, Pt.cells, Pt.slots] at X25 l25 y25 z25 st25 hQ25
  subst l25 y25 z25
  obtain ⟨vb26, kb27, rfl, Nq25, K25, g28, g29⟩ := hQ25
  have N25 := Fr.app N17 Nq25
  have ne30 : b2 ≠ vb26 := Nat.ne_of_lt (Nat.lt_of_lt_of_le f22.lt g28)
  have ne31 : b10 ≠ vb26 := Nat.ne_of_lt (Nat.lt_of_lt_of_le V17.lt g28)
  have ge32 : n0 ≤ vb26 := Nat.le_trans zs18 g28
  have sz33 : h0.size ≤ vb26 := Nat.le_trans kc19.1 g28
  have zs34 : n0 ≤ T25.heap.size := Nat.le_trans zs18 K25.1
  have kc35 : Keep h0 T25.heap [] := kc19.trans K25 (allS (Or.inr sz4) all0)
  have pre36 : own_Go p e below S0 (T25.setTop (mkF m 34 #[.val (.int 1), .val (.int p2), .val (.int p3), .val (.int p4)] [(.ref b2)])) := by
    intro t kt
    refine pre20 t ?_
    refine st25.trans ?_
    show Steps p.tables e below (T25.setTop (mkF m 34 #[.val (.int 1), .val (.int p2), .val (.int p3), .val (.int p4)] [(.ref b2)])) _
    exact kt
  obtain ⟨fs, hr, hrun, hended, hW, hsame⟩ := X25.leave (v := some (.ref b2)) (fun h => by rw [Bd.returns] at h; cases h)
  refine ⟨_, _, fin _ (pre36 _ ?_), hrun, hended, _, _, rfl, ?_, ⟨_, rfl⟩, hW, hsame.mono (by decide) (by decide)⟩
  · jvm_step X25.here [X25.here.top, hx, (hb hby d1_34), X25.method', Bd.returns, Value.isRef, FieldType.isReference]
    first | (intro acts; rw [hr _ acts rfl rfl rfl]) | rw [hr _ _ rfl rfl rfl]
    exact Steps.refl _
  · show Qmake1 Z p2 p3 p4 wC h0 n0 _ T25.heap _
    exact ⟨b2, vb26, kb27, rfl, N25, kc35, sz4, sz33, g29⟩

theorem d1_35 : decode method_3_code 35 = .ok (.iload_n 0, 1) := by decide +kernel
theorem d1_36 : decode method_3_code 36 = .ok (.iconst 2, 1) := by decide +kernel
theorem d1_37 : decode method_3_code 37 = .ok (.if_icmp .ne 22, 3) := by decide +kernel
theorem d1_40 : decode method_3_code 40 = .ok (.new 35, 3) := by decide +kernel
theorem d1_43 : decode method_3_code 43 = .ok (.dup, 1) := by decide +kernel
theorem d1_44 : decode method_3_code 44 = .ok (.iconst 2, 1) := by decide +kernel
theorem d1_45 : decode method_3_code 45 = .ok (.newarray .char, 2) := by decide +kernel
theorem d1_47 : decode method_3_code 47 = .ok (.dup, 1) := by decide +kernel
theorem d1_48 : decode method_3_code 48 = .ok (.iconst 0, 1) := by decide +kernel
theorem d1_49 : decode method_3_code 49 = .ok (.iload_n 1, 1) := by decide +kernel
theorem d1_50 : decode method_3_code 50 = .ok (.castore, 1) := by decide +kernel
theorem d1_51 : decode method_3_code 51 = .ok (.dup, 1) := by decide +kernel
theorem d1_52 : decode method_3_code 52 = .ok (.iconst 1, 1) := by decide +kernel
theorem d1_53 : decode method_3_code 53 = .ok (.iload_n 2, 1) := by decide +kernel
theorem d1_54 : decode method_3_code 54 = .ok (.castore, 1) := by decide +kernel
theorem d1_55 : decode method_3_code 55 = .ok (.invokespecial 37, 3) := by decide +kernel
theorem d1_58 : decode method_3_code 58 = .ok (.areturn, 1) := by decide +kernel
theorem ef_make2 (m : MethodId) (x1 : Int32) (x2 : Int32) (x3 : Int32) : entryFrame m #[(.int 2), (.int x1), (.int x2), (.int x3)] 4 = mkF m 0 #[.val (.int 2), .val (.int x1), .val (.int x2), .val (.int x3)] [] := by first | (simp [entryFrame, mkF, argsToLocals, Value.category]; done) | rfl
def Qmake2 (Z : State) (p2 : Int32) (p3 : Int32) (p4 : Int32) (wC : Int32) (h0 : Heap) (n0 : Nat) (v : Option Value) (h : Heap) (L : List Loc) : Prop := ∃ b : Addr, ∃ vb : Addr, ∃ kb : ClassId, v = (some (.ref b)) ∧ Fr n0 L ∧ Keep h0 h [] ∧ h0.size ≤ b ∧ h0.size ≤ vb ∧ own_Str Z h b vb kb [(nar .char p2), (nar .char p3)]
set_option maxRecDepth 65536 in
set_option maxHeartbeats 40000000 in
theorem rmmake2 (l : Launch) (Z : State) (a0 : Array Value) (hw : ∀ d ∈ tables_1, d.before a0 Z = true) (ws : List Jvm.Cond) (p2 : Int32) (p3 : Int32) (p4 : Int32) (wC : Int32) (h0 : Heap) (n0 : Nat) (Z0 : n0 ≤ h0.size) (O0 : Old Z n0 h0) (qC : (own_SC Z wC)) (qU : (own_SU Z)) :
    MetFree l own_m3 (head1 (Jvm.Cond.code own_m3 method_3_code 4 (some (.object "java/lang/String")) :: ws) (own_r 6 4 12 88)) (fun a U => a = #[(.int 2), (.int p2), (.int p3), (.int p4)] ∧ Z.Warmed39 U.vm ∧ U.heap = h0) (fun _ _ _ _ _ => True) (fun _ U o U' => ∃ v L, o = .returned v ∧ Qmake2 Z p2 p3 p4 wC h0 n0 v U'.heap L ∧ FrameEnd U o U' L (own_r 6 4 12 88).cells (own_r 6 4 12 88).slots) := by
  refine MetFree.of_bodySF (plainFor_of_name pn_1) hisR ?_
  intro p e s m args below meth c s₁ Bd hml0 hP hK
  obtain ⟨rfl, hZ, hh⟩ := hP
  have hx := Bd.exec
  have hby := Bd.bytes
  have hml : c.maxLocals = 4 := hml0
  have hown0 := findClass_of_methodNamed Bd.named
  have hown : s.vm.findClass "com/example/backplane/backplane/IdSyntaxIsValidPinLaw" = some m.cls := hown0
  have hnm := (name_of_methodNamed Bd.named Bd.method).1
  have X0 : Stand p l e (own_r 6 4 12 88) s m #[(.int 2), (.int p2), (.int p3), (.int p4)] below meth c s₁ [] 0 0 := Stand.of_body Bd
  have e0 : s₁.heap = h0 := by rw [← hh, Bd.state]; rfl
  have N0 := Fr.nil n0
  obtain ⟨S0, hS0⟩ : ∃ z, z = s₁.setTop (entryFrame m #[(.int 2), (.int p2), (.int p3), (.int p4)] 4) := ⟨_, rfl⟩
  have pre0 : own_Go p e below S0 (s₁.setTop (mkF m 0 #[.val (.int 2), .val (.int p2), .val (.int p3), .val (.int p4)] [])) := fun t k => by rw [hS0]; exact castTop (ef_make2 m p2 p3 p4) k
  have fin : ∀ t, Steps p.tables e below S0 t → Steps p.tables e below (s₁.setTop (entryFrame m #[(.int 2), (.int p2), (.int p3), (.int p4)] 4)) t := fun t k => by rw [hS0] at k; exact k
  have kc0 : Keep h0 h0 [] := Keep.refl _ _
  have pre1 : own_Go p e below S0 (s₁.setTop (mkF m 40 #[.val (.int 2), .val (.int p2), .val (.int p3), .val (.int p4)] [])) := by
    intro t kt
    refine pre0 t ?_
    refine XS.iloadN X0.here hx rfl (hb hby d1_0) rfl ?_
    refine XS.ifYes X0.here hx rfl (pc0 := 1) (pc' := 15) rfl (hb hby d1_1) rfl ((if0 _ _).trans (feq (by decide : ¬ ((2 : Int32) = (0 : Int32)))).2) (by decide) (by decide) ?_
    refine XS.iloadN X0.here hx rfl (hb hby d1_15) rfl ?_
    refine XS.iconst X0.here hx rfl (hb hby d1_16) ?_
    refine XS.icmpYes X0.here hx rfl (pc0 := 17) (pc' := 35) rfl (hb hby d1_17) rfl (feq (by decide : ¬ ((2 : Int32) = (1 : Int32)))).2 (by decide) (by decide) ?_
    refine XS.iloadN X0.here hx rfl (hb hby d1_35) rfl ?_
    show Steps p.tables e below (s₁.setTop (mkF m 36 #[.val (.int 2), .val (.int p2), .val (.int p3), .val (.int p4)] [(.int 2)])) _
    refine XS.iconst X0.here hx rfl (hb hby d1_36) ?_
    refine XS.icmpNo X0.here hx rfl (hb hby d1_37) rfl (teq (by decide : (2 : Int32) = (2 : Int32))).2 ?_
    exact kt
  obtain ⟨T2, h2, X2, e2, E2, A2, D2, -, st2⟩ := newO X0 hx hZ hown (hw _ (own_w 9 rfl)) (hw _ (own_w 10 rfl)) (hw _ (own_w 11 rfl)) e0 (g := (mkF m 40 #[.val (.int 2), .val (.int p2), .val (.int p3), .val (.int p4)] [])) rfl (hb hby d1_40) (by decide) (by decide)
  obtain ⟨b2, g2⟩ : ∃ z, z = h0.size := ⟨_, rfl⟩
  rw [← g2] at A2 D2 st2
  have ge3 : n0 ≤ b2 := Nat.le_trans Z0 (Nat.le_of_eq g2.symm)
  have sz4 : h0.size ≤ b2 := Nat.le_trans kc0.1 (Nat.le_of_eq g2.symm)
  have zs5 : n0 ≤ h2.size := Nat.le_trans Z0 E2.1
  have kc6 : Keep h0 h2 [] := kc0.ext E2
  have fd7 : Fld Z h2 b2 "java/lang/String" "coder" "B" (.int 0) := D2 (Or.inr (hw _ (own_w 36 rfl))) (ty := .byte) (by decide)
  have fd8 : Fld Z h2 b2 "java/lang/String" "value" "[B" .null := D2 (Or.inr (hw _ (own_w 38 rfl))) (ty := (.array .byte)) (by decide)
  have pre9 : own_Go p e below S0 (T2.setTop (mkF m 45 #[.val (.int 2), .val (.int p2), .val (.int p3), .val (.int p4)] [(.int 2), (.ref b2), (.ref b2)])) := by
    intro t kt
    refine pre1 t ?_
    refine st2 _ ?_
    refine XS.dup X2.here hx rfl (hb hby d1_43) rfl rfl ?_
    refine XS.iconst X2.here hx rfl (hb hby d1_44) ?_
    exact kt
  obtain ⟨T10, h10, k10, X10, e10, E10, A10, st10⟩ := newP X2 hx hZ (hw _ (own_w 12 rfl)) e2 (g := (mkF m 45 #[.val (.int 2), .val (.int p2), .val (.int p3), .val (.int p4)] [(.int 2), (.ref b2), (.ref b2)])) rfl (hb hby d1_45) rfl (by decide) (cap := 2) (by decide) (by decide) (by decide) (by decide)
  obtain ⟨b10, g10⟩ : ∃ z, z = h2.size := ⟨_, rfl⟩
  rw [← g10] at A10 st10
  have ne11 : b2 ≠ b10 := Nat.ne_of_lt (Nat.lt_of_lt_of_le A2.lt (Nat.le_of_eq g10.symm))
  have ge12 : n0 ≤ b10 := Nat.le_trans zs5 (Nat.le_of_eq g10.symm)
  have sz13 : h0.size ≤ b10 := Nat.le_trans kc6.1 (Nat.le_of_eq g10.symm)
  have zs14 : n0 ≤ h10.size := Nat.le_trans zs5 E10.1
  have kc15 : Keep h0 h10 [] := kc6.ext E10
  have V10 : Arv Z h10 b10 k10 .char (2 : Int32) [(.int 0), (.int 0)] (.int 0) := (Arv.new A10 (by decide)).pad (pad_rep [] (.int 0) 2)
  have pre16 : own_Go p e below S0 (T10.setTop (mkF m 50 #[.val (.int 2), .val (.int p2), .val (.int p3), .val (.int p4)] [(.int p2), (.int 0), (.ref b10), (.ref b10), (.ref b2), (.ref b2)])) := by
    intro t kt
    refine pre9 t ?_
    refine st10 _ ?_
    refine XS.dup X10.here hx rfl (hb hby d1_47) rfl rfl ?_
    refine XS.iconst X10.here hx rfl (hb hby d1_48) ?_
    refine XS.iloadN X10.here hx rfl (hb hby d1_49) rfl ?_
    exact kt
  obtain ⟨cl17, Ar17, q17, Sz17, Ng17, Hs17, Gt17⟩ := id V10
  have hin17 : ¬ ((0 : Int32) < 0 ∨ cl17.slots.size ≤ ((0 : Int32)).toNatClampNeg) := inb_of Sz17 ⟨by decide, by decide⟩
  obtain ⟨T17, h17, X17, e17, W17, st17⟩ := stC X10 hx hZ e10 Ar17 (j := (0 : Int32)) hin17 (g := (mkF m 50 #[.val (.int 2), .val (.int p2), .val (.int p3), .val (.int p4)] [(.int p2), (.int 0), (.ref b10), (.ref b10), (.ref b2), (.ref b2)])) rfl rfl (hb hby d1_50)
  have N17 := Fr.snoc X17 N0 ge12
  have zs18 : n0 ≤ h17.size := Nat.le_trans zs14 (Keep.of_wr W17).1
  have kc19 : Keep h0 h17 [] := kc15.wr W17 (Or.inr sz13)
  have V17 : Arv Z h17 b10 k10 .char (2 : Int32) [(.int (nar .char p2)), (.int 0)] (.int 0) := Arv.set Ar17 q17 Sz17 Ng17 Hs17 Gt17 (fits_nar_char _) W17 0 rfl (Nat.le_of_ble_eq_true rfl)
  have pre20 : own_Go p e below S0 (T17.setTop (mkF m 54 #[.val (.int 2), .val (.int p2), .val (.int p3), .val (.int p4)] [(.int p3), (.int 1), (.ref b10), (.ref b10), (.ref b2), (.ref b2)])) := by
    intro t kt
    refine pre16 t ?_
    refine st17 _ ?_
    refine XS.dup X17.here hx rfl (hb hby d1_51) rfl rfl ?_
    refine XS.iconst X17.here hx rfl (hb hby d1_52) ?_
    refine XS.iloadN X17.here hx rfl (hb hby d1_53) rfl ?_
    exact kt
  obtain ⟨cl21, Ar21, q21, Sz21, Ng21, Hs21, Gt21⟩ := id V17
  have hin21 : ¬ ((1 : Int32) < 0 ∨ cl21.slots.size ≤ ((1 : Int32)).toNatClampNeg) := inb_of Sz21 ⟨by decide, by decide⟩
  obtain ⟨T21, h21, X21, e21, W21, st21⟩ := stC X17 hx hZ e17 Ar21 (j := (1 : Int32)) hin21 (g := (mkF m 54 #[.val (.int 2), .val (.int p2), .val (.int p3), .val (.int p4)] [(.int p3), (.int 1), (.ref b10), (.ref b10), (.ref b2), (.ref b2)])) rfl rfl (hb hby d1_54)
  have N21 := Fr.snoc X21 N17 ge12
  have zs22 : n0 ≤ h21.size := Nat.le_trans zs18 (Keep.of_wr W21).1
  have kc23 : Keep h0 h21 [] := kc19.wr W21 (Or.inr sz13)
  have V21 : Arv Z h21 b10 k10 .char (2 : Int32) [(.int (nar .char p2)), (.int (nar .char p3))] (.int 0) := Arv.set Ar21 q21 Sz21 Ng21 Hs21 Gt21 (fits_nar_char _) W21 1 rfl (Nat.le_of_ble_eq_true rfl)
  have pre24 : own_Go p e below S0 (T21.setTop (mkF m 55 #[.val (.int 2), .val (.int p2), .val (.int p3), .val (.int p4)] [(.ref b10), (.ref b2), (.ref b2)])) := by
    intro t kt
    refine pre20 t ?_
    refine st21 _ ?_
    exact kt
  have f25 := (((O0.ext E2).ext E10).wr W17 ge12)
  have f26 : Old Z n0 h21 := (f25.wr W21 ge12)
  have f27 : Exa Z h21 b2 "java/lang/String" := (((A2.ext E10).wr W17).wr W21)
  have f28 : Fld Z h21 b2 "java/lang/String" "value" "[B" .null := (((fd8.ext E10).other W17 (Or.inl ne11)).other W21 (Or.inl ne11))
  have f29 : Fld Z h21 b2 "java/lang/String" "coder" "B" (.int 0) := (((fd7.ext E10).other W17 (Or.inl ne11)).other W21 (Or.inl ne11))
  obtain ⟨_, _, ⟨T30, L30, k30, n30⟩, -, X30, ⟨Lc30, hQ30, l30, y30, z30⟩, st30⟩ := X21.specialBack hx (y := own_m6) rfl hown (mvT hZ (hw _ (own_w 13 rfl))) (mvT hZ (hw _ (own_w 14 rfl))) (mvT hZ (hw _ (own_w 15 rfl))) (by decide) (backOf (W := 1) (rminit1_2 l Z a0 hw [] b2 b10 k10 (nar .char p2) (nar .char p3) wC h21 n0 zs22 f26 qC qU f27 f28 f29 ge3 V21) hZ (hw _ (own_w 15 rfl)) (hw _ (own_w 11 rfl)) (by decide) (by decide)) (g := (mkF m 55 #[.val (.int 2), .val (.int p2), .val (.int p3), .val (.int p4)] [(.ref b10), (.ref b2), (.ref b2)])) rfl (by rw [hml]; rfl) (Steps.refl _) (a := b2) (argsL := [(.ref b10)]) (rest := [(.ref b2)]) (lenOf pd_14 rfl) rfl (by show 2 * 0 + _ ≤ _; exact Nat.le_of_eq rfl) (hb hby d1_55) (fun _ _ => ⟨rfl, e21, (by decide : 2 + 2 ≤ _), (by decide : 6 + 6 ≤ _)⟩)
  dsimp only [Pt.U, Pt.locs, Pt.cells, Pt.slots] at X30 l30 y30 z30 st30 hQ30
  subst l30 y30 z30
  obtain ⟨vb31, kb32, rfl, Nq30, K30, g33, g34⟩ := hQ30
  have N30 := Fr.app N21 Nq30
  have ne35 : b2 ≠ vb31 := Nat.ne_of_lt (Nat.lt_of_lt_of_le f27.lt g33)
  have ne36 : b10 ≠ vb31 := Nat.ne_of_lt (Nat.lt_of_lt_of_le V21.lt g33)
  have ge37 : n0 ≤ vb31 := Nat.le_trans zs22 g33
  have sz38 : h0.size ≤ vb31 := Nat.le_trans kc23.1 g33
  have zs39 : n0 ≤ T30.heap.size := Nat.le_trans zs22 K30.1
  have kc40 : Keep h0 T30.heap [] := kc23.trans K30 (allS (Or.inr sz4) all0)
  have pre41 : own_Go p e below S0 (T30.setTop (mkF m 58 #[.val (.int 2), .val (.int p2), .val (.int p3), .val (.int p4)] [(.ref b2)])) := by
    intro t kt
    refine pre24 t ?_
    refine st30.trans ?_
    show Steps p.tables e below (T30.setTop (mkF m 58 #[.val (.int 2), .val (.int p2), .val (.int p3), .val (.int p4)] [(.ref b2)])) _
    exact kt
  obtain ⟨fs, hr, hrun, hended, hW, hsame⟩ := X30.leave (v := some (.ref b2)) (fun h => by rw [Bd.returns] at h; cases h)
  refine ⟨_, _, fin _ (pre41 _ ?_), hrun, hended, _, _, rfl, ?_, ⟨_, rfl⟩, hW, hsame.mono (by decide) (by decide)⟩
  · jvm_step X30.here [X30.here.top, hx, (hb hby d1_58), X30.method', Bd.returns, Value.isRef, FieldType.isReference]
    first | (intro acts; rw [hr _ acts rfl rfl rfl]) | rw [hr _ _ rfl rfl rfl]
    exact Steps.refl _
  · show Qmake2 Z p2 p3 p4 wC h0 n0 _ T30.heap _
    exact ⟨b2, vb31, kb32, rfl, N30, kc40, sz4, sz38, g34⟩

theorem d1_59 : decode method_3_code 59 = .ok (.new 35, 3) := by decide +kernel
theorem d1_62 : decode method_3_code 62 = .ok (.dup, 1) := by decide +kernel
theorem d1_63 : decode method_3_code 63 = .ok (.iconst 3, 1) := by decide +kernel
theorem d1_64 : decode method_3_code 64 = .ok (.newarray .char, 2) := by decide +kernel
theorem d1_66 : decode method_3_code 66 = .ok (.dup, 1) := by decide +kernel
theorem d1_67 : decode method_3_code 67 = .ok (.iconst 0, 1) := by decide +kernel
theorem d1_68 : decode method_3_code 68 = .ok (.iload_n 1, 1) := by decide +kernel
theorem d1_69 : decode method_3_code 69 = .ok (.castore, 1) := by decide +kernel
theorem d1_70 : decode method_3_code 70 = .ok (.dup, 1) := by decide +kernel
theorem d1_71 : decode method_3_code 71 = .ok (.iconst 1, 1) := by decide +kernel
theorem d1_72 : decode method_3_code 72 = .ok (.iload_n 2, 1) := by decide +kernel
theorem d1_73 : decode method_3_code 73 = .ok (.castore, 1) := by decide +kernel
theorem d1_74 : decode method_3_code 74 = .ok (.dup, 1) := by decide +kernel
theorem d1_75 : decode method_3_code 75 = .ok (.iconst 2, 1) := by decide +kernel
theorem d1_76 : decode method_3_code 76 = .ok (.iload_n 3, 1) := by decide +kernel
theorem d1_77 : decode method_3_code 77 = .ok (.castore, 1) := by decide +kernel
theorem d1_78 : decode method_3_code 78 = .ok (.invokespecial 37, 3) := by decide +kernel
theorem d1_81 : decode method_3_code 81 = .ok (.areturn, 1) := by decide +kernel
theorem ef_make3 (m : MethodId) (x1 : Int32) (x2 : Int32) (x3 : Int32) : entryFrame m #[(.int 3), (.int x1), (.int x2), (.int x3)] 4 = mkF m 0 #[.val (.int 3), .val (.int x1), .val (.int x2), .val (.int x3)] [] := by first | (simp [entryFrame, mkF, argsToLocals, Value.category]; done) | rfl
def Qmake3 (Z : State) (p2 : Int32) (p3 : Int32) (p4 : Int32) (wC : Int32) (h0 : Heap) (n0 : Nat) (v : Option Value) (h : Heap) (L : List Loc) : Prop := ∃ b : Addr, ∃ vb : Addr, ∃ kb : ClassId, v = (some (.ref b)) ∧ Fr n0 L ∧ Keep h0 h [] ∧ h0.size ≤ b ∧ h0.size ≤ vb ∧ own_Str Z h b vb kb [(nar .char p2), (nar .char p3), (nar .char p4)]
set_option maxRecDepth 65536 in
set_option maxHeartbeats 40000000 in
theorem rmmake3 (l : Launch) (Z : State) (a0 : Array Value) (hw : ∀ d ∈ tables_1, d.before a0 Z = true) (ws : List Jvm.Cond) (p2 : Int32) (p3 : Int32) (p4 : Int32) (wC : Int32) (h0 : Heap) (n0 : Nat) (Z0 : n0 ≤ h0.size) (O0 : Old Z n0 h0) (qC : (own_SC Z wC)) (qU : (own_SU Z)) :
    MetFree l own_m3 (head1 (Jvm.Cond.code own_m3 method_3_code 4 (some (.object "java/lang/String")) :: ws) (own_r 6 4 16 88)) (fun a U => a = #[(.int 3), (.int p2), (.int p3), (.int p4)] ∧ Z.Warmed39 U.vm ∧ U.heap = h0) (fun _ _ _ _ _ => True) (fun _ U o U' => ∃ v L, o = .returned v ∧ Qmake3 Z p2 p3 p4 wC h0 n0 v U'.heap L ∧ FrameEnd U o U' L (own_r 6 4 16 88).cells (own_r 6 4 16 88).slots) := by
  refine MetFree.of_bodySF (plainFor_of_name pn_1) hisR ?_
  intro p e s m args below meth c s₁ Bd hml0 hP hK
  obtain ⟨rfl, hZ, hh⟩ := hP
  have hx := Bd.exec
  have hby := Bd.bytes
  have hml : c.maxLocals = 4 := hml0
  have hown0 := findClass_of_methodNamed Bd.named
  have hown : s.vm.findClass "com/example/backplane/backplane/IdSyntaxIsValidPinLaw" = some m.cls := hown0
  have hnm := (name_of_methodNamed Bd.named Bd.method).1
  have X0 : Stand p l e (own_r 6 4 16 88) s m #[(.int 3), (.int p2), (.int p3), (.int p4)] below meth c s₁ [] 0 0 := Stand.of_body Bd
  have e0 : s₁.heap = h0 := by rw [← hh, Bd.state]; rfl
  have N0 := Fr.nil n0
  obtain ⟨S0, hS0⟩ : ∃ z, z = s₁.setTop (entryFrame m #[(.int 3), (.int p2), (.int p3), (.int p4)] 4) := ⟨_, rfl⟩
  have pre0 : own_Go p e below S0 (s₁.setTop (mkF m 0 #[.val (.int 3), .val (.int p2), .val (.int p3), .val (.int p4)] [])) := fun t k => by rw [hS0]; exact castTop (ef_make3 m p2 p3 p4) k
  have fin : ∀ t, Steps p.tables e below S0 t → Steps p.tables e below (s₁.setTop (entryFrame m #[(.int 3), (.int p2), (.int p3), (.int p4)] 4)) t := fun t k => by rw [hS0] at k; exact k
  have kc0 : Keep h0 h0 [] := Keep.refl _ _
  have pre1 : own_Go p e below S0 (s₁.setTop (mkF m 59 #[.val (.int 3), .val (.int p2), .val (.int p3), .val (.int p4)] [])) := by
    intro t kt
    refine pre0 t ?_
    refine XS.iloadN X0.here hx rfl (hb hby d1_0) rfl ?_
    refine XS.ifYes X0.here hx rfl (pc0 := 1) (pc' := 15) rfl (hb hby d1_1) rfl ((if0 _ _).trans (feq (by decide : ¬ ((3 : Int32) = (0 : Int32)))).2) (by decide) (by decide) ?_
    refine XS.iloadN X0.here hx rfl (hb hby d1_15) rfl ?_
    refine XS.iconst X0.here hx rfl (hb hby d1_16) ?_
    refine XS.icmpYes X0.here hx rfl (pc0 := 17) (pc' := 35) rfl (hb hby d1_17) rfl (feq (by decide : ¬ ((3 : Int32) = (1 : Int32)))).2 (by decide) (by decide) ?_
    refine XS.iloadN X0.here hx rfl (hb hby d1_35) rfl ?_
    show Steps p.tables e below (s₁.setTop (mkF m 36 #[.val (.int 3), .val (.int p2), .val (.int p3), .val (.int p4)] [(.int 3)])) _
    refine XS.iconst X0.here hx rfl (hb hby d1_36) ?_
    refine XS.icmpYes X0.here hx rfl (pc0 := 37) (pc' := 59) rfl (hb hby d1_37) rfl (feq (by decide : ¬ ((3 : Int32) = (2 : Int32)))).2 (by decide) (by decide) ?_
    exact kt
  obtain ⟨T2, h2, X2, e2, E2, A2, D2, -, st2⟩ := newO X0 hx hZ hown (hw _ (own_w 9 rfl)) (hw _ (own_w 10 rfl)) (hw _ (own_w 11 rfl)) e0 (g := (mkF m 59 #[.val (.int 3), .val (.int p2), .val (.int p3), .val (.int p4)] [])) rfl (hb hby d1_59) (by decide) (by decide)
  obtain ⟨b2, g2⟩ : ∃ z, z = h0.size := ⟨_, rfl⟩
  rw [← g2] at A2 D2 st2
  have ge3 : n0 ≤ b2 := Nat.le_trans Z0 (Nat.le_of_eq g2.symm)
  have sz4 : h0.size ≤ b2 := Nat.le_trans kc0.1 (Nat.le_of_eq g2.symm)
  have zs5 : n0 ≤ h2.size := Nat.le_trans Z0 E2.1
  have kc6 : Keep h0 h2 [] := kc0.ext E2
  have fd7 : Fld Z h2 b2 "java/lang/String" "coder" "B" (.int 0) := D2 (Or.inr (hw _ (own_w 36 rfl))) (ty := .byte) (by decide)
  have fd8 : Fld Z h2 b2 "java/lang/String" "value" "[B" .null := D2 (Or.inr (hw _ (own_w 38 rfl))) (ty := (.array .byte)) (by decide)
  have pre9 : own_Go p e below S0 (T2.setTop (mkF m 64 #[.val (.int 3), .val (.int p2), .val (.int p3), .val (.int p4)] [(.int 3), (.ref b2), (.ref b2)])) := by
    intro t kt
    refine pre1 t ?_
    refine st2 _ ?_
    refine XS.dup X2.here hx rfl (hb hby d1_62) rfl rfl ?_
    refine XS.iconst X2.here hx rfl (hb hby d1_63) ?_
    exact kt
  obtain ⟨T10, h10, k10, X10, e10, E10, A10, st10⟩ := newP X2 hx hZ (hw _ (own_w 12 rfl)) e2 (g := (mkF m 64 #[.val (.int 3), .val (.int p2), .val (.int p3), .val (.int p4)] [(.int 3), (.ref b2), (.ref b2)])) rfl (hb hby d1_64) rfl (by decide) (cap := 3) (by decide) (by decide) (by decide) (by decide)
  obtain ⟨b10, g10⟩ : ∃ z, z = h2.size := ⟨_, rfl⟩
  rw [← g10] at A10 st10
  have ne11 : b2 ≠ b10 := Nat.ne_of_lt (Nat.lt_of_lt_of_le A2.lt (Nat.le_of_eq g10.symm))
  have ge12 : n0 ≤ b10 := Nat.le_trans zs5 (Nat.le_of_eq g10.symm)
  have sz13 : h0.size ≤ b10 := Nat.le_trans kc6.1 (Nat.le_of_eq g10.symm)
  have zs14 : n0 ≤ h10.size := Nat.le_trans zs5 E10.1
  have kc15 : Keep h0 h10 [] := kc6.ext E10
  have V10 : Arv Z h10 b10 k10 .char (3 : Int32) [(.int 0), (.int 0), (.int 0)] (.int 0) := (Arv.new A10 (by decide)).pad (pad_rep [] (.int 0) 3)
  have pre16 : own_Go p e below S0 (T10.setTop (mkF m 69 #[.val (.int 3), .val (.int p2), .val (.int p3), .val (.int p4)] [(.int p2), (.int 0), (.ref b10), (.ref b10), (.ref b2), (.ref b2)])) := by
    intro t kt
    refine pre9 t ?_
    refine st10 _ ?_
    refine XS.dup X10.here hx rfl (hb hby d1_66) rfl rfl ?_
    refine XS.iconst X10.here hx rfl (hb hby d1_67) ?_
    refine XS.iloadN X10.here hx rfl (hb hby d1_68) rfl ?_
    exact kt
  obtain ⟨cl17, Ar17, q17, Sz17, Ng17, Hs17, Gt17⟩ := id V10
  have hin17 : ¬ ((0 : Int32) < 0 ∨ cl17.slots.size ≤ ((0 : Int32)).toNatClampNeg) := inb_of Sz17 ⟨by decide, by decide⟩
  obtain ⟨T17, h17, X17, e17, W17, st17⟩ := stC X10 hx hZ e10 Ar17 (j := (0 : Int32)) hin17 (g := (mkF m 69 #[.val (.int 3), .val (.int p2), .val (.int p3), .val (.int p4)] [(.int p2), (.int 0), (.ref b10), (.ref b10), (.ref b2), (.ref b2)])) rfl rfl (hb hby d1_69)
  have N17 := Fr.snoc X17 N0 ge12
  have zs18 : n0 ≤ h17.size := Nat.le_trans zs14 (Keep.of_wr W17).1
  have kc19 : Keep h0 h17 [] := kc15.wr W17 (Or.inr sz13)
  have V17 : Arv Z h17 b10 k10 .char (3 : Int32) [(.int (nar .char p2)), (.int 0), (.int 0)] (.int 0) := Arv.set Ar17 q17 Sz17 Ng17 Hs17 Gt17 (fits_nar_char _) W17 0 rfl (Nat.le_of_ble_eq_true rfl)
  have pre20 : own_Go p e below S0 (T17.setTop (mkF m 73 #[.val (.int 3), .val (.int p2), .val (.int p3), .val (.int p4)] [(.int p3), (.int 1), (.ref b10), (.ref b10), (.ref b2), (.ref b2)])) := by
    intro t kt
    refine pre16 t ?_
    refine st17 _ ?_
    refine XS.dup X17.here hx rfl (hb hby d1_70) rfl rfl ?_
    refine XS.iconst X17.here hx rfl (hb hby d1_71) ?_
    refine XS.iloadN X17.here hx rfl (hb hby d1_72) rfl ?_
    exact kt
  obtain ⟨cl21, Ar21, q21, Sz21, Ng21, Hs21, Gt21⟩ := id V17
  have hin21 : ¬ ((1 : Int32) < 0 ∨ cl21.slots.size ≤ ((1 : Int32)).toNatClampNeg) := inb_of Sz21 ⟨by decide, by decide⟩
  obtain ⟨T21, h21, X21, e21, W21, st21⟩ := stC X17 hx hZ e17 Ar21 (j := (1 : Int32)) hin21 (g := (mkF m 73 #[.val (.int 3), .val (.int p2), .val (.int p3), .val (.int p4)] [(.int p3), (.int 1), (.ref b10), (.ref b10), (.ref b2), (.ref b2)])) rfl rfl (hb hby d1_73)
  have N21 := Fr.snoc X21 N17 ge12
  have zs22 : n0 ≤ h21.size := Nat.le_trans zs18 (Keep.of_wr W21).1
  have kc23 : Keep h0 h21 [] := kc19.wr W21 (Or.inr sz13)
  have V21 : Arv Z h21 b10 k10 .char (3 : Int32) [(.int (nar .char p2)), (.int (nar .char p3)), (.int 0)] (.int 0) := Arv.set Ar21 q21 Sz21 Ng21 Hs21 Gt21 (fits_nar_char _) W21 1 rfl (Nat.le_of_ble_eq_true rfl)
  have pre24 : own_Go p e below S0 (T21.setTop (mkF m 77 #[.val (.int 3), .val (.int p2), .val (.int p3), .val (.int p4)] [(.int p4), (.int 2), (.ref b10), (.ref b10), (.ref b2), (.ref b2)])) := by
    intro t kt
    refine pre20 t ?_
    refine st21 _ ?_
    refine XS.dup X21.here hx rfl (hb hby d1_74) rfl rfl ?_
    refine XS.iconst X21.here hx rfl (hb hby d1_75) ?_
    refine XS.iloadN X21.here hx rfl (hb hby d1_76) rfl ?_
    exact kt
  obtain ⟨cl25, Ar25, q25, Sz25, Ng25, Hs25, Gt25⟩ := id V21
  have hin25 : ¬ ((2 : Int32) < 0 ∨ cl25.slots.size ≤ ((2 : Int32)).toNatClampNeg) := inb_of Sz25 ⟨by decide, by decide⟩
  obtain ⟨T25, h25, X25, e25, W25, st25⟩ := stC X21 hx hZ e21 Ar25 (j := (2 : Int32)) hin25 (g := (mkF m 77 #[.val (.int 3), .val (.int p2), .val (.int p3), .val (.int p4)] [(.int p4), (.int 2), (.ref b10), (.ref b10), (.ref b2), (.ref b2)])) rfl rfl (hb hby d1_77)
  have N25 := Fr.snoc X25 N21 ge12
  have zs26 : n0 ≤ h25.size := Nat.le_trans zs22 (Keep.of_wr W25).1
  have kc27 : Keep h0 h25 [] := kc23.wr W25 (Or.inr sz13)
  have V25 : Arv Z h25 b10 k10 .char (3 : Int32) [(.int (nar .char p2)), (.int (nar .char p3)), (.int (nar .char p4))] (.int 0) := Arv.set Ar25 q25 Sz25 Ng25 Hs25 Gt25 (fits_nar_char _) W25 2 rfl (Nat.le_of_ble_eq_true rfl)
  have pre28 : own_Go p e below S0 (T25.setTop (mkF m 78 #[.val (.int 3), .val (.int p2), .val (.int p3), .val (.int p4)] [(.ref b10), (.ref b2), (.ref b2)])) := by
    intro t kt
    refine pre24 t ?_
    refine st25 _ ?_
    exact kt
  have f29 := (((O0.ext E2).ext E10).wr W17 ge12)
  have f30 : Old Z n0 h25 := ((f29.wr W21 ge12).wr W25 ge12)
  have f31 := (((A2.ext E10).wr W17).wr W21)
  have f32 : Exa Z h25 b2 "java/lang/String" := (f31.wr W25)
  have f33 := (((fd8.ext E10).other W17 (Or.inl ne11)).other W21 (Or.inl ne11))
  have f34 : Fld Z h25 b2 "java/lang/String" "value" "[B" .null := (f33.other W25 (Or.inl ne11))
  have f35 := (((fd7.ext E10).other W17 (Or.inl ne11)).other W21 (Or.inl ne11))
  have f36 : Fld Z h25 b2 "java/lang/String" "coder" "B" (.int 0) := (f35.other W25 (Or.inl ne11))
  obtain ⟨_, _, ⟨T37, L37, k37, n37⟩, -, X37, ⟨Lc37, hQ37, l37, y37, z37⟩, st37⟩ := X25.specialBack hx (y := own_m6) rfl hown (mvT hZ (hw _ (own_w 13 rfl))) (mvT hZ (hw _ (own_w 14 rfl))) (mvT hZ (hw _ (own_w 15 rfl))) (by decide) (backOf (W := 1) (rminit1_3 l Z a0 hw [] b2 b10 k10 (nar .char p2) (nar .char p3) (nar .char p4) wC h25 n0 zs26 f30 qC qU f32 f34 f36 ge3 V25) hZ (hw _ (own_w 15 rfl)) (hw _ (own_w 11 rfl)) (by decide) (by decide)) (g := (mkF m 78 #[.val (.int 3), .val (.int p2), .val (.int p3), .val (.int p4)] [(.ref b10), (.ref b2), (.ref b2)])) rfl (by rw [hml]; rfl) (Steps.refl _) (a := b2) (argsL := [(.ref b10)]) (rest := [(.ref b2)]) (lenOf pd_14 rfl) rfl (by show 2 * 0 + _ ≤ _; exact Nat.le_of_eq rfl) (hb hby d1_78) (fun _ _ => ⟨rfl, e25, (by decide : 2 + 2 ≤ _), (by decide : 7 + 9 ≤ _)⟩)
  dsimp only [Pt.U, Pt.locs, Pt.cells, Pt.slots] at X37 l37 y37 z37 st37 hQ37
  subst l37 y37 z37
  obtain ⟨vb38, kb39, rfl, Nq37, K37, g40, g41⟩ := hQ37
  have N37 := Fr.app N25 Nq37
  have ne42 : b2 ≠ vb38 := Nat.ne_of_lt (Nat.lt_of_lt_of_le f32.lt g40)
  have ne43 : b10 ≠ vb38 := Nat.ne_of_lt (Nat.lt_of_lt_of_le V25.lt g40)
  have ge44 : n0 ≤ vb38 := Nat.le_trans zs26 g40
  have sz45 : h0.size ≤ vb38 := Nat.le_trans kc27.1 g40
  have zs46 : n0 ≤ T37.heap.size := Nat.le_trans zs26 K37.1
  have kc47 : Keep h0 T37.heap [] := kc27.trans K37 (allS (Or.inr sz4) all0)
  have pre48 : own_Go p e below S0 (T37.setTop (mkF m 81 #[.val (.int 3), .val (.int p2), .val (.int p3), .val (.int p4)] [(.ref b2)])) := by
    intro t kt
    refine pre28 t ?_
    refine st37.trans ?_
    show Steps p.tables e below (T37.setTop (mkF m 81 #[.val (.int 3), .val (.int p2), .val (.int p3), .val (.int p4)] [(.ref b2)])) _
    exact kt
  obtain ⟨fs, hr, hrun, hended, hW, hsame⟩ := X37.leave (v := some (.ref b2)) (fun h => by rw [Bd.returns] at h; cases h)
  refine ⟨_, _, fin _ (pre48 _ ?_), hrun, hended, _, _, rfl, ?_, ⟨_, rfl⟩, hW, hsame.mono (by decide) (by decide)⟩
  · jvm_step X37.here [X37.here.top, hx, (hb hby d1_81), X37.method', Bd.returns, Value.isRef, FieldType.isReference]
    first | (intro acts; rw [hr _ acts rfl rfl rfl]) | rw [hr _ _ rfl rfl rfl]
    exact Steps.refl _
  · show Qmake3 Z p2 p3 p4 wC h0 n0 _ T37.heap _
    exact ⟨b2, vb38, kb39, rfl, N37, kc47, sz4, sz45, g41⟩

theorem d8_0 : decode method_4_code 0 = .ok (.iload_n 1, 1) := by decide +kernel
theorem d8_1 : decode method_4_code 1 = .ok (.bipush 97, 2) := by decide +kernel
theorem d8_3 : decode method_4_code 3 = .ok (.if_icmp .lt 11, 3) := by decide +kernel
theorem d8_6 : decode method_4_code 6 = .ok (.iload_n 1, 1) := by decide +kernel
theorem d8_7 : decode method_4_code 7 = .ok (.bipush 122, 2) := by decide +kernel
theorem d8_9 : decode method_4_code 9 = .ok (.if_icmp .gt 5, 3) := by decide +kernel
theorem d8_12 : decode method_4_code 12 = .ok (.iconst 1, 1) := by decide +kernel
theorem d8_13 : decode method_4_code 13 = .ok (.ireturn, 1) := by decide +kernel
theorem d8_14 : decode method_4_code 14 = .ok (.iload_n 1, 1) := by decide +kernel
theorem d8_15 : decode method_4_code 15 = .ok (.bipush 65, 2) := by decide +kernel
theorem d8_17 : decode method_4_code 17 = .ok (.if_icmp .lt 11, 3) := by decide +kernel
theorem d8_20 : decode method_4_code 20 = .ok (.iload_n 1, 1) := by decide +kernel
theorem d8_21 : decode method_4_code 21 = .ok (.bipush 90, 2) := by decide +kernel
theorem d8_23 : decode method_4_code 23 = .ok (.if_icmp .gt 5, 3) := by decide +kernel
theorem d8_26 : decode method_4_code 26 = .ok (.iconst 1, 1) := by decide +kernel
theorem d8_27 : decode method_4_code 27 = .ok (.ireturn, 1) := by decide +kernel
theorem d8_28 : decode method_4_code 28 = .ok (.iload_n 1, 1) := by decide +kernel
theorem d8_29 : decode method_4_code 29 = .ok (.bipush 48, 2) := by decide +kernel
theorem d8_31 : decode method_4_code 31 = .ok (.if_icmp .lt 11, 3) := by decide +kernel
theorem d8_34 : decode method_4_code 34 = .ok (.iload_n 1, 1) := by decide +kernel
theorem d8_35 : decode method_4_code 35 = .ok (.bipush 57, 2) := by decide +kernel
theorem d8_37 : decode method_4_code 37 = .ok (.if_icmp .gt 5, 3) := by decide +kernel
theorem d8_40 : decode method_4_code 40 = .ok (.iconst 1, 1) := by decide +kernel
theorem d8_41 : decode method_4_code 41 = .ok (.ireturn, 1) := by decide +kernel
theorem d8_42 : decode method_4_code 42 = .ok (.iload_n 1, 1) := by decide +kernel
theorem d8_43 : decode method_4_code 43 = .ok (.bipush 45, 2) := by decide +kernel
theorem d8_45 : decode method_4_code 45 = .ok (.if_icmp .eq 9, 3) := by decide +kernel
theorem d8_48 : decode method_4_code 48 = .ok (.iload_n 1, 1) := by decide +kernel
theorem d8_49 : decode method_4_code 49 = .ok (.bipush 95, 2) := by decide +kernel
theorem d8_51 : decode method_4_code 51 = .ok (.if_icmp .ne 5, 3) := by decide +kernel
theorem d8_54 : decode method_4_code 54 = .ok (.iconst 1, 1) := by decide +kernel
theorem d8_55 : decode method_4_code 55 = .ok (.ireturn, 1) := by decide +kernel
theorem d8_56 : decode method_4_code 56 = .ok (.iload_n 1, 1) := by decide +kernel
theorem d8_57 : decode method_4_code 57 = .ok (.bipush 46, 2) := by decide +kernel
theorem d8_59 : decode method_4_code 59 = .ok (.if_icmp .ne 14, 3) := by decide +kernel
theorem d8_62 : decode method_4_code 62 = .ok (.iload_n 0, 1) := by decide +kernel
theorem d8_63 : decode method_4_code 63 = .ok (.iconst 2, 1) := by decide +kernel
theorem d8_64 : decode method_4_code 64 = .ok (.if_icmp .eq 7, 3) := by decide +kernel
theorem d8_67 : decode method_4_code 67 = .ok (.iconst 1, 1) := by decide +kernel
theorem d8_68 : decode method_4_code 68 = .ok (.goto 4, 3) := by decide +kernel
theorem d8_71 : decode method_4_code 71 = .ok (.iconst 0, 1) := by decide +kernel
theorem d8_72 : decode method_4_code 72 = .ok (.ireturn, 1) := by decide +kernel
theorem d8_73 : decode method_4_code 73 = .ok (.iload_n 1, 1) := by decide +kernel
theorem d8_74 : decode method_4_code 74 = .ok (.bipush 58, 2) := by decide +kernel
theorem d8_76 : decode method_4_code 76 = .ok (.if_icmp .ne 14, 3) := by decide +kernel
theorem d8_79 : decode method_4_code 79 = .ok (.iload_n 0, 1) := by decide +kernel
theorem d8_80 : decode method_4_code 80 = .ok (.iconst 1, 1) := by decide +kernel
theorem d8_81 : decode method_4_code 81 = .ok (.if_icmp .ne 7, 3) := by decide +kernel
theorem d8_84 : decode method_4_code 84 = .ok (.iconst 1, 1) := by decide +kernel
theorem d8_85 : decode method_4_code 85 = .ok (.goto 4, 3) := by decide +kernel
theorem d8_88 : decode method_4_code 88 = .ok (.iconst 0, 1) := by decide +kernel
theorem d8_89 : decode method_4_code 89 = .ok (.ireturn, 1) := by decide +kernel
theorem d8_90 : decode method_4_code 90 = .ok (.iconst 0, 1) := by decide +kernel
theorem d8_91 : decode method_4_code 91 = .ok (.ireturn, 1) := by decide +kernel
theorem pn_8 : plainName "com/example/backplane/backplane/IdSyntaxIsValidPinLaw" = true := by first | (simp [plainName, overriddenIn]; done) | decide +kernel
theorem ef_8 (m : MethodId) (x0 : Int32) (x1 : Int32) : entryFrame m #[(.int x0), (.int x1)] 2 = mkF m 0 #[.val (.int x0), .val (.int x1)] [] := by first | (simp [entryFrame, mkF, argsToLocals, Value.category]; done) | rfl
def own_al (p1 : Int32) (p2 : Int32) : Int32 := (if (¬ p2 < (97 : Int32) ∧ ¬ (122 : Int32) < p2) then (1 : Int32) else (if (¬ p2 < (65 : Int32) ∧ ¬ (90 : Int32) < p2) then (1 : Int32) else (if (¬ p2 < (48 : Int32) ∧ ¬ (57 : Int32) < p2) then (1 : Int32) else (if p2 = (45 : Int32) then (1 : Int32) else (if p2 = (95 : Int32) then (1 : Int32) else (if p2 = (46 : Int32) then (if p1 = (2 : Int32) then (0 : Int32) else (1 : Int32)) else (if p2 = (58 : Int32) then (if p1 = (1 : Int32) then (1 : Int32) else (0 : Int32)) else (0 : Int32))))))))
def Q8 (Z : State) (p1 : Int32) (p2 : Int32) (h0 : Heap) (n0 : Nat) (v : Option Value) (h : Heap) (L : List Loc) : Prop := v = (some (.int (own_al p1 p2))) ∧ Fr n0 L ∧ h = h0
set_option maxRecDepth 65536 in
set_option maxHeartbeats 40000000 in
theorem rm8 (l : Launch) (Z : State) (a0 : Array Value) (hw : ∀ d ∈ tables_1, d.before a0 Z = true) (ws : List Jvm.Cond) (p1 : Int32) (p2 : Int32) (h0 : Heap) (n0 : Nat) (Z0 : n0 ≤ h0.size) :
    MetFree l own_m2 (head1 (Jvm.Cond.code own_m2 method_4_code 2 (some .boolean) :: ws) (own_r 0 0 0 0)) (fun a U => a = #[(.int p1), (.int p2)] ∧ Z.Warmed39 U.vm ∧ U.heap = h0) (fun _ _ _ _ _ => True) (fun _ U o U' => ∃ v L, o = .returned v ∧ Q8 Z p1 p2 h0 n0 v U'.heap L ∧ FrameEnd U o U' L (own_r 0 0 0 0).cells (own_r 0 0 0 0).slots) := by
  refine MetFree.of_bodySF (plainFor_of_name pn_8) hisR ?_
  intro p e s m args below meth c s₁ Bd hml0 hP hK
  obtain ⟨rfl, hZ, hh⟩ := hP
  have hx := Bd.exec
  have hby := Bd.bytes
  have hml : c.maxLocals = 2 := hml0
  have hown0 := findClass_of_methodNamed Bd.named
  have hown : s.vm.findClass "com/example/backplane/backplane/IdSyntaxIsValidPinLaw" = some m.cls := hown0
  have hnm := (name_of_methodNamed Bd.named Bd.method).1
  have X0 : Stand p l e (own_r 0 0 0 0) s m #[(.int p1), (.int p2)] below meth c s₁ [] 0 0 := Stand.of_body Bd
  have e0 : s₁.heap = h0 := by rw [← hh, Bd.state]; rfl
  have N0 := Fr.nil n0
  obtain ⟨S0, hS0⟩ : ∃ z, z = s₁.setTop (entryFrame m #[(.int p1), (.int p2)] 2) := ⟨_, rfl⟩
  have pre0 : own_Go p e below S0 (s₁.setTop (mkF m 0 #[.val (.int p1), .val (.int p2)] [])) := fun t k => by rw [hS0]; exact castTop (ef_8 m p1 p2) k
  have fin : ∀ t, Steps p.tables e below S0 t → Steps p.tables e below (s₁.setTop (entryFrame m #[(.int p1), (.int p2)] 2)) t := fun t k => by rw [hS0] at k; exact k
  by_cases hA1 : (¬ p2 < (97 : Int32) ∧ ¬ (122 : Int32) < p2)
  · have pre2 : own_Go p e below S0 (s₁.setTop (mkF m 13 #[.val (.int p1), .val (.int p2)] [(.int 1)])) := by
      intro t kt
      refine pre0 t ?_
      refine XS.iloadN X0.here hx rfl (hb hby d8_0) rfl ?_
      refine XS.bipush X0.here hx rfl (hb hby d8_1) ?_
      refine XS.icmpNo X0.here hx rfl (hb hby d8_3) rfl (flt hA1.1).1 ?_
      refine XS.iloadN X0.here hx rfl (hb hby d8_6) rfl ?_
      refine XS.bipush X0.here hx rfl (hb hby d8_7) ?_
      refine XS.icmpNo X0.here hx rfl (hb hby d8_9) rfl (flt hA1.2).2.2.1 ?_
      show Steps p.tables e below (s₁.setTop (mkF m 12 #[.val (.int p1), .val (.int p2)] [])) _
      refine XS.iconst X0.here hx rfl (hb hby d8_12) ?_
      exact kt
    obtain ⟨fs, hr, hrun, hended, hW, hsame⟩ := X0.leave (v := some (.int 1)) (fun h => by rw [Bd.returns] at h; cases h)
    refine ⟨_, _, fin _ (pre2 _ ?_), hrun, hended, _, _, rfl, ?_, ⟨_, rfl⟩, hW, hsame.mono (by decide) (by decide)⟩
    · exact retN X0 hx (t := .boolean) Bd.returns (by simp) (hb hby d8_13) hr
    · show Q8 Z p1 p2 h0 n0 _ s₁.heap _
      rw [e0]
      exact ⟨(by show some _ = some _; rw [own_al, if_pos hA1]), N0, rfl⟩
  · have pre3 : own_Go p e below S0 (s₁.setTop (mkF m 14 #[.val (.int p1), .val (.int p2)] [])) := by
      have pre5 : own_Go p e below S0 (s₁.setTop (mkF m 3 #[.val (.int p1), .val (.int p2)] [(.int 97), (.int p2)])) := by
        intro t kt
        refine pre0 t ?_
        refine XS.iloadN X0.here hx rfl (hb hby d8_0) rfl ?_
        refine XS.bipush X0.here hx rfl (hb hby d8_1) ?_
        exact kt
      by_cases hc4 : p2 < (97 : Int32)
      · have pre6 : own_Go p e below S0 (s₁.setTop (mkF m 14 #[.val (.int p1), .val (.int p2)] [])) := by
          intro t kt
          refine pre5 t ?_
          refine XS.icmpYes X0.here hx rfl (pc0 := 3) (pc' := 14) rfl (hb hby d8_3) rfl (tlt hc4).1 (by decide) (by decide) ?_
          exact kt
        exact pre6
      · have pre7 : own_Go p e below S0 (s₁.setTop (mkF m 14 #[.val (.int p1), .val (.int p2)] [])) := by
          intro t kt
          refine pre5 t ?_
          refine XS.icmpNo X0.here hx rfl (hb hby d8_3) rfl (flt hc4).1 ?_
          refine XS.iloadN X0.here hx rfl (hb hby d8_6) rfl ?_
          refine XS.bipush X0.here hx rfl (hb hby d8_7) ?_
          refine XS.icmpYes X0.here hx rfl (pc0 := 9) (pc' := 14) rfl (hb hby d8_9) rfl (tlt (Decidable.byContradiction fun q => hA1 ⟨hc4, q⟩)).2.2.1 (by decide) (by decide) ?_
          exact kt
        exact pre7
    by_cases hA8 : (¬ p2 < (65 : Int32) ∧ ¬ (90 : Int32) < p2)
    · have pre9 : own_Go p e below S0 (s₁.setTop (mkF m 27 #[.val (.int p1), .val (.int p2)] [(.int 1)])) := by
        intro t kt
        refine pre3 t ?_
        refine XS.iloadN X0.here hx rfl (hb hby d8_14) rfl ?_
        refine XS.bipush X0.here hx rfl (hb hby d8_15) ?_
        refine XS.icmpNo X0.here hx rfl (hb hby d8_17) rfl (flt hA8.1).1 ?_
        refine XS.iloadN X0.here hx rfl (hb hby d8_20) rfl ?_
        refine XS.bipush X0.here hx rfl (hb hby d8_21) ?_
        refine XS.icmpNo X0.here hx rfl (hb hby d8_23) rfl (flt hA8.2).2.2.1 ?_
        show Steps p.tables e below (s₁.setTop (mkF m 26 #[.val (.int p1), .val (.int p2)] [])) _
        refine XS.iconst X0.here hx rfl (hb hby d8_26) ?_
        exact kt
      obtain ⟨fs, hr, hrun, hended, hW, hsame⟩ := X0.leave (v := some (.int 1)) (fun h => by rw [Bd.returns] at h; cases h)
      refine ⟨_, _, fin _ (pre9 _ ?_), hrun, hended, _, _, rfl, ?_, ⟨_, rfl⟩, hW, hsame.mono (by decide) (by decide)⟩
      · exact retN X0 hx (t := .boolean) Bd.returns (by simp) (hb hby d8_27) hr
      · show Q8 Z p1 p2 h0 n0 _ s₁.heap _
        rw [e0]
        exact ⟨(by show some _ = some _; rw [own_al, if_neg hA1, if_pos hA8]), N0, rfl⟩
    · have pre10 : own_Go p e below S0 (s₁.setTop (mkF m 28 #[.val (.int p1), .val (.int p2)] [])) := by
        have pre12 : own_Go p e below S0 (s₁.setTop (mkF m 17 #[.val (.int p1), .val (.int p2)] [(.int 65), (.int p2)])) := by
          intro t kt
          refine pre3 t ?_
          refine XS.iloadN X0.here hx rfl (hb hby d8_14) rfl ?_
          refine XS.bipush X0.here hx rfl (hb hby d8_15) ?_
          exact kt
        by_cases hc11 : p2 < (65 : Int32)
        · have pre13 : own_Go p e below S0 (s₁.setTop (mkF m 28 #[.val (.int p1), .val (.int p2)] [])) := by
            intro t kt
            refine pre12 t ?_
            refine XS.icmpYes X0.here hx rfl (pc0 := 17) (pc' := 28) rfl (hb hby d8_17) rfl (tlt hc11).1 (by decide) (by decide) ?_
            exact kt
          exact pre13
        · have pre14 : own_Go p e below S0 (s₁.setTop (mkF m 28 #[.val (.int p1), .val (.int p2)] [])) := by
            intro t kt
            refine pre12 t ?_
            refine XS.icmpNo X0.here hx rfl (hb hby d8_17) rfl (flt hc11).1 ?_
            refine XS.iloadN X0.here hx rfl (hb hby d8_20) rfl ?_
            refine XS.bipush X0.here hx rfl (hb hby d8_21) ?_
            refine XS.icmpYes X0.here hx rfl (pc0 := 23) (pc' := 28) rfl (hb hby d8_23) rfl (tlt (Decidable.byContradiction fun q => hA8 ⟨hc11, q⟩)).2.2.1 (by decide) (by decide) ?_
            exact kt
          exact pre14
      by_cases hA15 : (¬ p2 < (48 : Int32) ∧ ¬ (57 : Int32) < p2)
      · have pre16 : own_Go p e below S0 (s₁.setTop (mkF m 41 #[.val (.int p1), .val (.int p2)] [(.int 1)])) := by
          intro t kt
          refine pre10 t ?_
          refine XS.iloadN X0.here hx rfl (hb hby d8_28) rfl ?_
          refine XS.bipush X0.here hx rfl (hb hby d8_29) ?_
          refine XS.icmpNo X0.here hx rfl (hb hby d8_31) rfl (flt hA15.1).1 ?_
          refine XS.iloadN X0.here hx rfl (hb hby d8_34) rfl ?_
          refine XS.bipush X0.here hx rfl (hb hby d8_35) ?_
          refine XS.icmpNo X0.here hx rfl (hb hby d8_37) rfl (flt hA15.2).2.2.1 ?_
          show Steps p.tables e below (s₁.setTop (mkF m 40 #[.val (.int p1), .val (.int p2)] [])) _
          refine XS.iconst X0.here hx rfl (hb hby d8_40) ?_
          exact kt
        obtain ⟨fs, hr, hrun, hended, hW, hsame⟩ := X0.leave (v := some (.int 1)) (fun h => by rw [Bd.returns] at h; cases h)
        refine ⟨_, _, fin _ (pre16 _ ?_), hrun, hended, _, _, rfl, ?_, ⟨_, rfl⟩, hW, hsame.mono (by decide) (by decide)⟩
        · exact retN X0 hx (t := .boolean) Bd.returns (by simp) (hb hby d8_41) hr
        · show Q8 Z p1 p2 h0 n0 _ s₁.heap _
          rw [e0]
          exact ⟨(by show some _ = some _; rw [own_al, if_neg hA1, if_neg hA8, if_pos hA15]), N0, rfl⟩
      · have pre17 : own_Go p e below S0 (s₁.setTop (mkF m 42 #[.val (.int p1), .val (.int p2)] [])) := by
          have pre19 : own_Go p e below S0 (s₁.setTop (mkF m 31 #[.val (.int p1), .val (.int p2)] [(.int 48), (.int p2)])) := by
            intro t kt
            refine pre10 t ?_
            refine XS.iloadN X0.here hx rfl (hb hby d8_28) rfl ?_
            refine XS.bipush X0.here hx rfl (hb hby d8_29) ?_
            exact kt
          by_cases hc18 : p2 < (48 : Int32)
          · have pre20 : own_Go p e below S0 (s₁.setTop (mkF m 42 #[.val (.int p1), .val (.int p2)] [])) := by
              intro t kt
              refine pre19 t ?_
              refine XS.icmpYes X0.here hx rfl (pc0 := 31) (pc' := 42) rfl (hb hby d8_31) rfl (tlt hc18).1 (by decide) (by decide) ?_
              exact kt
            exact pre20
          · have pre21 : own_Go p e below S0 (s₁.setTop (mkF m 42 #[.val (.int p1), .val (.int p2)] [])) := by
              intro t kt
              refine pre19 t ?_
              refine XS.icmpNo X0.here hx rfl (hb hby d8_31) rfl (flt hc18).1 ?_
              refine XS.iloadN X0.here hx rfl (hb hby d8_34) rfl ?_
              refine XS.bipush X0.here hx rfl (hb hby d8_35) ?_
              refine XS.icmpYes X0.here hx rfl (pc0 := 37) (pc' := 42) rfl (hb hby d8_37) rfl (tlt (Decidable.byContradiction fun q => hA15 ⟨hc18, q⟩)).2.2.1 (by decide) (by decide) ?_
              exact kt
            exact pre21
        have pre23 : own_Go p e below S0 (s₁.setTop (mkF m 45 #[.val (.int p1), .val (.int p2)] [(.int 45), (.int p2)])) := by
          intro t kt
          refine pre17 t ?_
          refine XS.iloadN X0.here hx rfl (hb hby d8_42) rfl ?_
          refine XS.bipush X0.here hx rfl (hb hby d8_43) ?_
          exact kt
        by_cases hc22 : p2 = (45 : Int32)
        · have pre24 : own_Go p e below S0 (s₁.setTop (mkF m 55 #[.val (.int p1), .val (.int p2)] [(.int 1)])) := by
            intro t kt
            refine pre23 t ?_
            refine XS.icmpYes X0.here hx rfl (pc0 := 45) (pc' := 54) rfl (hb hby d8_45) rfl (teq hc22).1 (by decide) (by decide) ?_
            refine XS.iconst X0.here hx rfl (hb hby d8_54) ?_
            exact kt
          obtain ⟨fs, hr, hrun, hended, hW, hsame⟩ := X0.leave (v := some (.int 1)) (fun h => by rw [Bd.returns] at h; cases h)
          refine ⟨_, _, fin _ (pre24 _ ?_), hrun, hended, _, _, rfl, ?_, ⟨_, rfl⟩, hW, hsame.mono (by decide) (by decide)⟩
          · exact retN X0 hx (t := .boolean) Bd.returns (by simp) (hb hby d8_55) hr
          · show Q8 Z p1 p2 h0 n0 _ s₁.heap _
            rw [e0]
            exact ⟨(by show some _ = some _; rw [own_al, if_neg hA1, if_neg hA8, if_neg hA15, if_pos hc22]), N0, rfl⟩
        · have pre26 : own_Go p e below S0 (s₁.setTop (mkF m 51 #[.val (.int p1), .val (.int p2)] [(.int 95), (.int p2)])) := by
            intro t kt
            refine pre23 t ?_
            refine XS.icmpNo X0.here hx rfl (hb hby d8_45) rfl (feq hc22).1 ?_
            refine XS.iloadN X0.here hx rfl (hb hby d8_48) rfl ?_
            refine XS.bipush X0.here hx rfl (hb hby d8_49) ?_
            exact kt
          by_cases hc25 : p2 = (95 : Int32)
          · have pre27 : own_Go p e below S0 (s₁.setTop (mkF m 55 #[.val (.int p1), .val (.int p2)] [(.int 1)])) := by
              intro t kt
              refine pre26 t ?_
              refine XS.icmpNo X0.here hx rfl (hb hby d8_51) rfl (teq hc25).2 ?_
              refine XS.iconst X0.here hx rfl (hb hby d8_54) ?_
              exact kt
            obtain ⟨fs, hr, hrun, hended, hW, hsame⟩ := X0.leave (v := some (.int 1)) (fun h => by rw [Bd.returns] at h; cases h)
            refine ⟨_, _, fin _ (pre27 _ ?_), hrun, hended, _, _, rfl, ?_, ⟨_, rfl⟩, hW, hsame.mono (by decide) (by decide)⟩
            · exact retN X0 hx (t := .boolean) Bd.returns (by simp) (hb hby d8_55) hr
            · show Q8 Z p1 p2 h0 n0 _ s₁.heap _
              rw [e0]
              exact ⟨(by show some _ = some _; rw [own_al, if_neg hA1, if_neg hA8, if_neg hA15, if_neg hc22, if_pos hc25]), N0, rfl⟩
          · have pre29 : own_Go p e below S0 (s₁.setTop (mkF m 59 #[.val (.int p1), .val (.int p2)] [(.int 46), (.int p2)])) := by
              intro t kt
              refine pre26 t ?_
              refine XS.icmpYes X0.here hx rfl (pc0 := 51) (pc' := 56) rfl (hb hby d8_51) rfl (feq hc25).2 (by decide) (by decide) ?_
              refine XS.iloadN X0.here hx rfl (hb hby d8_56) rfl ?_
              refine XS.bipush X0.here hx rfl (hb hby d8_57) ?_
              exact kt
            by_cases hc28 : p2 = (46 : Int32)
            · have pre31 : own_Go p e below S0 (s₁.setTop (mkF m 64 #[.val (.int p1), .val (.int p2)] [(.int 2), (.int p1)])) := by
                intro t kt
                refine pre29 t ?_
                refine XS.icmpNo X0.here hx rfl (hb hby d8_59) rfl (teq hc28).2 ?_
                refine XS.iloadN X0.here hx rfl (hb hby d8_62) rfl ?_
                refine XS.iconst X0.here hx rfl (hb hby d8_63) ?_
                exact kt
              by_cases hc30 : p1 = (2 : Int32)
              · have pre32 : own_Go p e below S0 (s₁.setTop (mkF m 72 #[.val (.int p1), .val (.int p2)] [(.int 0)])) := by
                  intro t kt
                  refine pre31 t ?_
                  refine XS.icmpYes X0.here hx rfl (pc0 := 64) (pc' := 71) rfl (hb hby d8_64) rfl (teq hc30).1 (by decide) (by decide) ?_
                  refine XS.iconst X0.here hx rfl (hb hby d8_71) ?_
                  exact kt
                obtain ⟨fs, hr, hrun, hended, hW, hsame⟩ := X0.leave (v := some (.int 0)) (fun h => by rw [Bd.returns] at h; cases h)
                refine ⟨_, _, fin _ (pre32 _ ?_), hrun, hended, _, _, rfl, ?_, ⟨_, rfl⟩, hW, hsame.mono (by decide) (by decide)⟩
                · exact retN X0 hx (t := .boolean) Bd.returns (by simp) (hb hby d8_72) hr
                · show Q8 Z p1 p2 h0 n0 _ s₁.heap _
                  rw [e0]
                  exact ⟨(by show some _ = some _; rw [own_al, if_neg hA1, if_neg hA8, if_neg hA15, if_neg hc22, if_neg hc25, if_pos hc28, if_pos hc30]), N0, rfl⟩
              · have pre33 : own_Go p e below S0 (s₁.setTop (mkF m 72 #[.val (.int p1), .val (.int p2)] [(.int 1)])) := by
                  intro t kt
                  refine pre31 t ?_
                  refine XS.icmpNo X0.here hx rfl (hb hby d8_64) rfl (feq hc30).1 ?_
                  refine XS.iconst X0.here hx rfl (hb hby d8_67) ?_
                  refine XS.goto X0.here hx rfl (pc0 := 68) (pc' := 72) rfl (hb hby d8_68) (by decide) (by decide) ?_
                  exact kt
                obtain ⟨fs, hr, hrun, hended, hW, hsame⟩ := X0.leave (v := some (.int 1)) (fun h => by rw [Bd.returns] at h; cases h)
                refine ⟨_, _, fin _ (pre33 _ ?_), hrun, hended, _, _, rfl, ?_, ⟨_, rfl⟩, hW, hsame.mono (by decide) (by decide)⟩
                · exact retN X0 hx (t := .boolean) Bd.returns (by simp) (hb hby d8_72) hr
                · show Q8 Z p1 p2 h0 n0 _ s₁.heap _
                  rw [e0]
                  exact ⟨(by show some _ = some _; rw [own_al, if_neg hA1, if_neg hA8, if_neg hA15, if_neg hc22, if_neg hc25, if_pos hc28, if_neg hc30]), N0, rfl⟩
            · have pre35 : own_Go p e below S0 (s₁.setTop (mkF m 76 #[.val (.int p1), .val (.int p2)] [(.int 58), (.int p2)])) := by
                intro t kt
                refine pre29 t ?_
                refine XS.icmpYes X0.here hx rfl (pc0 := 59) (pc' := 73) rfl (hb hby d8_59) rfl (feq hc28).2 (by decide) (by decide) ?_
                refine XS.iloadN X0.here hx rfl (hb hby d8_73) rfl ?_
                refine XS.bipush X0.here hx rfl (hb hby d8_74) ?_
                exact kt
              by_cases hc34 : p2 = (58 : Int32)
              · have pre37 : own_Go p e below S0 (s₁.setTop (mkF m 81 #[.val (.int p1), .val (.int p2)] [(.int 1), (.int p1)])) := by
                  intro t kt
                  refine pre35 t ?_
                  refine XS.icmpNo X0.here hx rfl (hb hby d8_76) rfl (teq hc34).2 ?_
                  refine XS.iloadN X0.here hx rfl (hb hby d8_79) rfl ?_
                  refine XS.iconst X0.here hx rfl (hb hby d8_80) ?_
                  exact kt
                by_cases hc36 : p1 = (1 : Int32)
                · have pre38 : own_Go p e below S0 (s₁.setTop (mkF m 89 #[.val (.int p1), .val (.int p2)] [(.int 1)])) := by
                    intro t kt
                    refine pre37 t ?_
                    refine XS.icmpNo X0.here hx rfl (hb hby d8_81) rfl (teq hc36).2 ?_
                    refine XS.iconst X0.here hx rfl (hb hby d8_84) ?_
                    refine XS.goto X0.here hx rfl (pc0 := 85) (pc' := 89) rfl (hb hby d8_85) (by decide) (by decide) ?_
                    exact kt
                  obtain ⟨fs, hr, hrun, hended, hW, hsame⟩ := X0.leave (v := some (.int 1)) (fun h => by rw [Bd.returns] at h; cases h)
                  refine ⟨_, _, fin _ (pre38 _ ?_), hrun, hended, _, _, rfl, ?_, ⟨_, rfl⟩, hW, hsame.mono (by decide) (by decide)⟩
                  · exact retN X0 hx (t := .boolean) Bd.returns (by simp) (hb hby d8_89) hr
                  · show Q8 Z p1 p2 h0 n0 _ s₁.heap _
                    rw [e0]
                    exact ⟨(by show some _ = some _; rw [own_al, if_neg hA1, if_neg hA8, if_neg hA15, if_neg hc22, if_neg hc25, if_neg hc28, if_pos hc34, if_pos hc36]), N0, rfl⟩
                · have pre39 : own_Go p e below S0 (s₁.setTop (mkF m 89 #[.val (.int p1), .val (.int p2)] [(.int 0)])) := by
                    intro t kt
                    refine pre37 t ?_
                    refine XS.icmpYes X0.here hx rfl (pc0 := 81) (pc' := 88) rfl (hb hby d8_81) rfl (feq hc36).2 (by decide) (by decide) ?_
                    refine XS.iconst X0.here hx rfl (hb hby d8_88) ?_
                    exact kt
                  obtain ⟨fs, hr, hrun, hended, hW, hsame⟩ := X0.leave (v := some (.int 0)) (fun h => by rw [Bd.returns] at h; cases h)
                  refine ⟨_, _, fin _ (pre39 _ ?_), hrun, hended, _, _, rfl, ?_, ⟨_, rfl⟩, hW, hsame.mono (by decide) (by decide)⟩
                  · exact retN X0 hx (t := .boolean) Bd.returns (by simp) (hb hby d8_89) hr
                  · show Q8 Z p1 p2 h0 n0 _ s₁.heap _
                    rw [e0]
                    exact ⟨(by show some _ = some _; rw [own_al, if_neg hA1, if_neg hA8, if_neg hA15, if_neg hc22, if_neg hc25, if_neg hc28, if_pos hc34, if_neg hc36]), N0, rfl⟩
              · have pre40 : own_Go p e below S0 (s₁.setTop (mkF m 91 #[.val (.int p1), .val (.int p2)] [(.int 0)])) := by
                  intro t kt
                  refine pre35 t ?_
                  refine XS.icmpYes X0.here hx rfl (pc0 := 76) (pc' := 90) rfl (hb hby d8_76) rfl (feq hc34).2 (by decide) (by decide) ?_
                  refine XS.iconst X0.here hx rfl (hb hby d8_90) ?_
                  exact kt
                obtain ⟨fs, hr, hrun, hended, hW, hsame⟩ := X0.leave (v := some (.int 0)) (fun h => by rw [Bd.returns] at h; cases h)
                refine ⟨_, _, fin _ (pre40 _ ?_), hrun, hended, _, _, rfl, ?_, ⟨_, rfl⟩, hW, hsame.mono (by decide) (by decide)⟩
                · exact retN X0 hx (t := .boolean) Bd.returns (by simp) (hb hby d8_91) hr
                · show Q8 Z p1 p2 h0 n0 _ s₁.heap _
                  rw [e0]
                  exact ⟨(by show some _ = some _; rw [own_al, if_neg hA1, if_neg hA8, if_neg hA15, if_neg hc22, if_neg hc25, if_neg hc28, if_neg hc34]), N0, rfl⟩

theorem d22_0 : decode jdk_43_method_4_code 0 = .ok (.iload_n 0, 1) := by decide +kernel
theorem d22_1 : decode jdk_43_method_4_code 1 = .ok (.ifCond .lt 14, 3) := by decide +kernel
theorem d22_4 : decode jdk_43_method_4_code 4 = .ok (.iload_n 0, 1) := by decide +kernel
theorem d22_5 : decode jdk_43_method_4_code 5 = .ok (.sipush 255, 3) := by decide +kernel
theorem d22_8 : decode jdk_43_method_4_code 8 = .ok (.if_icmp .gt 7, 3) := by decide +kernel
theorem d22_11 : decode jdk_43_method_4_code 11 = .ok (.iconst 1, 1) := by decide +kernel
theorem d22_12 : decode jdk_43_method_4_code 12 = .ok (.goto 4, 3) := by decide +kernel
theorem d22_15 : decode jdk_43_method_4_code 15 = .ok (.iconst 0, 1) := by decide +kernel
theorem d22_16 : decode jdk_43_method_4_code 16 = .ok (.ireturn, 1) := by decide +kernel
theorem pn_22 : plainName "java/lang/StringLatin1" = true := by first | (simp [plainName, overriddenIn]; done) | decide +kernel
theorem ef_22 (m : MethodId) (x0 : Int32) : entryFrame m #[(.int x0)] 1 = mkF m 0 #[.val (.int x0)] [] := by first | (simp [entryFrame, mkF, argsToLocals, Value.category]; done) | rfl
def own_can (p1 : Int32) : Int32 := (if p1 < (0 : Int32) then (0 : Int32) else (if (255 : Int32) < p1 then (0 : Int32) else (1 : Int32)))
def Q22 (Z : State) (p1 : Int32) (h0 : Heap) (n0 : Nat) (v : Option Value) (h : Heap) (L : List Loc) : Prop := v = (some (.int (own_can p1))) ∧ Fr n0 L ∧ h = h0
set_option maxRecDepth 65536 in
set_option maxHeartbeats 40000000 in
theorem rm22 (l : Launch) (Z : State) (a0 : Array Value) (hw : ∀ d ∈ tables_1, d.before a0 Z = true) (ws : List Jvm.Cond) (p1 : Int32) (h0 : Heap) (n0 : Nat) (Z0 : n0 ≤ h0.size) :
    MetFree l own_m16 (head1 (Jvm.Cond.code own_m16 jdk_43_method_4_code 1 (some .boolean) :: ws) (own_r 0 0 0 0)) (fun a U => a = #[(.int p1)] ∧ Z.Warmed39 U.vm ∧ U.heap = h0) (fun _ _ _ _ _ => True) (fun _ U o U' => ∃ v L, o = .returned v ∧ Q22 Z p1 h0 n0 v U'.heap L ∧ FrameEnd U o U' L (own_r 0 0 0 0).cells (own_r 0 0 0 0).slots) := by
  refine MetFree.of_bodySF (plainFor_of_name pn_22) hisR ?_
  intro p e s m args below meth c s₁ Bd hml0 hP hK
  obtain ⟨rfl, hZ, hh⟩ := hP
  have hx := Bd.exec
  have hby := Bd.bytes
  have hml : c.maxLocals = 1 := hml0
  have hown0 := findClass_of_methodNamed Bd.named
  have hown : s.vm.findClass "java/lang/StringLatin1" = some m.cls := hown0
  have hnm := (name_of_methodNamed Bd.named Bd.method).1
  have X0 : Stand p l e (own_r 0 0 0 0) s m #[(.int p1)] below meth c s₁ [] 0 0 := Stand.of_body Bd
  have e0 : s₁.heap = h0 := by rw [← hh, Bd.state]; rfl
  have N0 := Fr.nil n0
  obtain ⟨S0, hS0⟩ : ∃ z, z = s₁.setTop (entryFrame m #[(.int p1)] 1) := ⟨_, rfl⟩
  have pre0 : own_Go p e below S0 (s₁.setTop (mkF m 0 #[.val (.int p1)] [])) := fun t k => by rw [hS0]; exact castTop (ef_22 m p1) k
  have fin : ∀ t, Steps p.tables e below S0 t → Steps p.tables e below (s₁.setTop (entryFrame m #[(.int p1)] 1)) t := fun t k => by rw [hS0] at k; exact k
  have pre2 : own_Go p e below S0 (s₁.setTop (mkF m 1 #[.val (.int p1)] [(.int p1)])) := by
    intro t kt
    refine pre0 t ?_
    refine XS.iloadN X0.here hx rfl (hb hby d22_0) rfl ?_
    exact kt
  by_cases hc1 : p1 < (0 : Int32)
  · have pre3 : own_Go p e below S0 (s₁.setTop (mkF m 16 #[.val (.int p1)] [(.int 0)])) := by
      intro t kt
      refine pre2 t ?_
      refine XS.ifYes X0.here hx rfl (pc0 := 1) (pc' := 15) rfl (hb hby d22_1) rfl ((if0 _ _).trans (tlt hc1).1) (by decide) (by decide) ?_
      refine XS.iconst X0.here hx rfl (hb hby d22_15) ?_
      exact kt
    obtain ⟨fs, hr, hrun, hended, hW, hsame⟩ := X0.leave (v := some (.int 0)) (fun h => by rw [Bd.returns] at h; cases h)
    refine ⟨_, _, fin _ (pre3 _ ?_), hrun, hended, _, _, rfl, ?_, ⟨_, rfl⟩, hW, hsame.mono (by decide) (by decide)⟩
    · exact retN X0 hx (t := .boolean) Bd.returns (by simp) (hb hby d22_16) hr
    · show Q22 Z p1 h0 n0 _ s₁.heap _
      rw [e0]
      exact ⟨(by show some _ = some _; rw [own_can, if_pos hc1]), N0, rfl⟩
  · have pre5 : own_Go p e below S0 (s₁.setTop (mkF m 8 #[.val (.int p1)] [(.int 255), (.int p1)])) := by
      intro t kt
      refine pre2 t ?_
      refine XS.ifNo X0.here hx rfl (hb hby d22_1) rfl ((if0 _ _).trans (flt hc1).1) ?_
      refine XS.iloadN X0.here hx rfl (hb hby d22_4) rfl ?_
      refine XS.sipush X0.here hx rfl (hb hby d22_5) ?_
      exact kt
    by_cases hc4 : (255 : Int32) < p1
    · have pre6 : own_Go p e below S0 (s₁.setTop (mkF m 16 #[.val (.int p1)] [(.int 0)])) := by
        intro t kt
        refine pre5 t ?_
        refine XS.icmpYes X0.here hx rfl (pc0 := 8) (pc' := 15) rfl (hb hby d22_8) rfl (tlt hc4).2.2.1 (by decide) (by decide) ?_
        refine XS.iconst X0.here hx rfl (hb hby d22_15) ?_
        exact kt
      obtain ⟨fs, hr, hrun, hended, hW, hsame⟩ := X0.leave (v := some (.int 0)) (fun h => by rw [Bd.returns] at h; cases h)
      refine ⟨_, _, fin _ (pre6 _ ?_), hrun, hended, _, _, rfl, ?_, ⟨_, rfl⟩, hW, hsame.mono (by decide) (by decide)⟩
      · exact retN X0 hx (t := .boolean) Bd.returns (by simp) (hb hby d22_16) hr
      · show Q22 Z p1 h0 n0 _ s₁.heap _
        rw [e0]
        exact ⟨(by show some _ = some _; rw [own_can, if_neg hc1, if_pos hc4]), N0, rfl⟩
    · have pre7 : own_Go p e below S0 (s₁.setTop (mkF m 16 #[.val (.int p1)] [(.int 1)])) := by
        intro t kt
        refine pre5 t ?_
        refine XS.icmpNo X0.here hx rfl (hb hby d22_8) rfl (flt hc4).2.2.1 ?_
        refine XS.iconst X0.here hx rfl (hb hby d22_11) ?_
        refine XS.goto X0.here hx rfl (pc0 := 12) (pc' := 16) rfl (hb hby d22_12) (by decide) (by decide) ?_
        exact kt
      obtain ⟨fs, hr, hrun, hended, hW, hsame⟩ := X0.leave (v := some (.int 1)) (fun h => by rw [Bd.returns] at h; cases h)
      refine ⟨_, _, fin _ (pre7 _ ?_), hrun, hended, _, _, rfl, ?_, ⟨_, rfl⟩, hW, hsame.mono (by decide) (by decide)⟩
      · exact retN X0 hx (t := .boolean) Bd.returns (by simp) (hb hby d22_16) hr
      · show Q22 Z p1 h0 n0 _ s₁.heap _
        rw [e0]
        exact ⟨(by show some _ = some _; rw [own_can, if_neg hc1, if_neg hc4]), N0, rfl⟩

theorem d23_0 : decode jdk_29_method_65_code 0 = .ok (.iload_n 0, 1) := by decide +kernel
theorem d23_1 : decode jdk_29_method_65_code 1 = .ok (.iload_n 1, 1) := by decide +kernel
theorem d23_2 : decode jdk_29_method_65_code 2 = .ok (.if_icmp .lt 7, 3) := by decide +kernel
theorem d23_5 : decode jdk_29_method_65_code 5 = .ok (.iload_n 0, 1) := by decide +kernel
theorem d23_6 : decode jdk_29_method_65_code 6 = .ok (.goto 4, 3) := by decide +kernel
theorem d23_9 : decode jdk_29_method_65_code 9 = .ok (.iload_n 1, 1) := by decide +kernel
theorem d23_10 : decode jdk_29_method_65_code 10 = .ok (.ireturn, 1) := by decide +kernel
theorem ef_23 (m : MethodId) (x0 : Int32) (x1 : Int32) : entryFrame m #[(.int x0), (.int x1)] 2 = mkF m 0 #[.val (.int x0), .val (.int x1)] [] := by first | (simp [entryFrame, mkF, argsToLocals, Value.category]; done) | rfl
def own_mx (p1 : Int32) (p2 : Int32) : Int32 := (if p1 < p2 then p2 else p1)
def Q23 (Z : State) (p1 : Int32) (p2 : Int32) (h0 : Heap) (n0 : Nat) (v : Option Value) (h : Heap) (L : List Loc) : Prop := v = (some (.int (own_mx p1 p2))) ∧ Fr n0 L ∧ h = h0
set_option maxRecDepth 65536 in
set_option maxHeartbeats 40000000 in
theorem rm23 (l : Launch) (Z : State) (a0 : Array Value) (hw : ∀ d ∈ tables_1, d.before a0 Z = true) (ws : List Jvm.Cond) (p1 : Int32) (p2 : Int32) (h0 : Heap) (n0 : Nat) (Z0 : n0 ≤ h0.size) :
    MetFree l own_m4 (head1 (Jvm.Cond.code own_m4 jdk_29_method_65_code 2 (some .int) :: ws) (own_r 0 0 0 0)) (fun a U => a = #[(.int p1), (.int p2)] ∧ Z.Warmed39 U.vm ∧ U.heap = h0) (fun _ _ _ _ _ => True) (fun _ U o U' => ∃ v L, o = .returned v ∧ Q23 Z p1 p2 h0 n0 v U'.heap L ∧ FrameEnd U o U' L (own_r 0 0 0 0).cells (own_r 0 0 0 0).slots) := by
  refine MetFree.of_bodySF (Jvm.Free.JP.mathPlain rfl (by decide +kernel)) hisR ?_
  intro p e s m args below meth c s₁ Bd hml0 hP hK
  obtain ⟨rfl, hZ, hh⟩ := hP
  have hx := Bd.exec
  have hby := Bd.bytes
  have hml : c.maxLocals = 2 := hml0
  have hown0 := findClass_of_methodNamed Bd.named
  have hown : s.vm.findClass "java/lang/Math" = some m.cls := hown0
  have hnm := (name_of_methodNamed Bd.named Bd.method).1
  have X0 : Stand p l e (own_r 0 0 0 0) s m #[(.int p1), (.int p2)] below meth c s₁ [] 0 0 := Stand.of_body Bd
  have e0 : s₁.heap = h0 := by rw [← hh, Bd.state]; rfl
  have N0 := Fr.nil n0
  obtain ⟨S0, hS0⟩ : ∃ z, z = s₁.setTop (entryFrame m #[(.int p1), (.int p2)] 2) := ⟨_, rfl⟩
  have pre0 : own_Go p e below S0 (s₁.setTop (mkF m 0 #[.val (.int p1), .val (.int p2)] [])) := fun t k => by rw [hS0]; exact castTop (ef_23 m p1 p2) k
  have fin : ∀ t, Steps p.tables e below S0 t → Steps p.tables e below (s₁.setTop (entryFrame m #[(.int p1), (.int p2)] 2)) t := fun t k => by rw [hS0] at k; exact k
  have pre2 : own_Go p e below S0 (s₁.setTop (mkF m 2 #[.val (.int p1), .val (.int p2)] [(.int p2), (.int p1)])) := by
    intro t kt
    refine pre0 t ?_
    refine XS.iloadN X0.here hx rfl (hb hby d23_0) rfl ?_
    refine XS.iloadN X0.here hx rfl (hb hby d23_1) rfl ?_
    exact kt
  by_cases hc1 : p1 < p2
  · have pre3 : own_Go p e below S0 (s₁.setTop (mkF m 10 #[.val (.int p1), .val (.int p2)] [(.int p2)])) := by
      intro t kt
      refine pre2 t ?_
      refine XS.icmpYes X0.here hx rfl (pc0 := 2) (pc' := 9) rfl (hb hby d23_2) rfl (tlt hc1).1 (by decide) (by decide) ?_
      refine XS.iloadN X0.here hx rfl (hb hby d23_9) rfl ?_
      exact kt
    obtain ⟨fs, hr, hrun, hended, hW, hsame⟩ := X0.leave (v := some (.int p2)) (fun h => by rw [Bd.returns] at h; cases h)
    refine ⟨_, _, fin _ (pre3 _ ?_), hrun, hended, _, _, rfl, ?_, ⟨_, rfl⟩, hW, hsame.mono (by decide) (by decide)⟩
    · exact retI X0 hx Bd.returns (hb hby d23_10) hr
    · show Q23 Z p1 p2 h0 n0 _ s₁.heap _
      rw [e0]
      exact ⟨(by show some _ = some _; rw [own_mx, if_pos hc1]), N0, rfl⟩
  · have pre4 : own_Go p e below S0 (s₁.setTop (mkF m 10 #[.val (.int p1), .val (.int p2)] [(.int p1)])) := by
      intro t kt
      refine pre2 t ?_
      refine XS.icmpNo X0.here hx rfl (hb hby d23_2) rfl (flt hc1).1 ?_
      refine XS.iloadN X0.here hx rfl (hb hby d23_5) rfl ?_
      refine XS.goto X0.here hx rfl (pc0 := 6) (pc' := 10) rfl (hb hby d23_6) (by decide) (by decide) ?_
      exact kt
    obtain ⟨fs, hr, hrun, hended, hW, hsame⟩ := X0.leave (v := some (.int p1)) (fun h => by rw [Bd.returns] at h; cases h)
    refine ⟨_, _, fin _ (pre4 _ ?_), hrun, hended, _, _, rfl, ?_, ⟨_, rfl⟩, hW, hsame.mono (by decide) (by decide)⟩
    · exact retI X0 hx Bd.returns (hb hby d23_10) hr
    · show Q23 Z p1 p2 h0 n0 _ s₁.heap _
      rw [e0]
      exact ⟨(by show some _ = some _; rw [own_mx, if_neg hc1]), N0, rfl⟩

theorem d24_0 : decode jdk_29_method_69_code 0 = .ok (.iload_n 0, 1) := by decide +kernel
theorem d24_1 : decode jdk_29_method_69_code 1 = .ok (.iload_n 1, 1) := by decide +kernel
theorem d24_2 : decode jdk_29_method_69_code 2 = .ok (.if_icmp .gt 7, 3) := by decide +kernel
theorem d24_5 : decode jdk_29_method_69_code 5 = .ok (.iload_n 0, 1) := by decide +kernel
theorem d24_6 : decode jdk_29_method_69_code 6 = .ok (.goto 4, 3) := by decide +kernel
theorem d24_9 : decode jdk_29_method_69_code 9 = .ok (.iload_n 1, 1) := by decide +kernel
theorem d24_10 : decode jdk_29_method_69_code 10 = .ok (.ireturn, 1) := by decide +kernel
theorem ef_24 (m : MethodId) (x0 : Int32) (x1 : Int32) : entryFrame m #[(.int x0), (.int x1)] 2 = mkF m 0 #[.val (.int x0), .val (.int x1)] [] := by first | (simp [entryFrame, mkF, argsToLocals, Value.category]; done) | rfl
def own_mn (p1 : Int32) (p2 : Int32) : Int32 := (if p2 < p1 then p2 else p1)
def Q24 (Z : State) (p1 : Int32) (p2 : Int32) (h0 : Heap) (n0 : Nat) (v : Option Value) (h : Heap) (L : List Loc) : Prop := v = (some (.int (own_mn p1 p2))) ∧ Fr n0 L ∧ h = h0
set_option maxRecDepth 65536 in
set_option maxHeartbeats 40000000 in
theorem rm24 (l : Launch) (Z : State) (a0 : Array Value) (hw : ∀ d ∈ tables_1, d.before a0 Z = true) (ws : List Jvm.Cond) (p1 : Int32) (p2 : Int32) (h0 : Heap) (n0 : Nat) (Z0 : n0 ≤ h0.size) :
    MetFree l own_m5 (head1 (Jvm.Cond.code own_m5 jdk_29_method_69_code 2 (some .int) :: ws) (own_r 0 0 0 0)) (fun a U => a = #[(.int p1), (.int p2)] ∧ Z.Warmed39 U.vm ∧ U.heap = h0) (fun _ _ _ _ _ => True) (fun _ U o U' => ∃ v L, o = .returned v ∧ Q24 Z p1 p2 h0 n0 v U'.heap L ∧ FrameEnd U o U' L (own_r 0 0 0 0).cells (own_r 0 0 0 0).slots) := by
  refine MetFree.of_bodySF (Jvm.Free.JP.mathPlain rfl (by decide +kernel)) hisR ?_
  intro p e s m args below meth c s₁ Bd hml0 hP hK
  obtain ⟨rfl, hZ, hh⟩ := hP
  have hx := Bd.exec
  have hby := Bd.bytes
  have hml : c.maxLocals = 2 := hml0
  have hown0 := findClass_of_methodNamed Bd.named
  have hown : s.vm.findClass "java/lang/Math" = some m.cls := hown0
  have hnm := (name_of_methodNamed Bd.named Bd.method).1
  have X0 : Stand p l e (own_r 0 0 0 0) s m #[(.int p1), (.int p2)] below meth c s₁ [] 0 0 := Stand.of_body Bd
  have e0 : s₁.heap = h0 := by rw [← hh, Bd.state]; rfl
  have N0 := Fr.nil n0
  obtain ⟨S0, hS0⟩ : ∃ z, z = s₁.setTop (entryFrame m #[(.int p1), (.int p2)] 2) := ⟨_, rfl⟩
  have pre0 : own_Go p e below S0 (s₁.setTop (mkF m 0 #[.val (.int p1), .val (.int p2)] [])) := fun t k => by rw [hS0]; exact castTop (ef_24 m p1 p2) k
  have fin : ∀ t, Steps p.tables e below S0 t → Steps p.tables e below (s₁.setTop (entryFrame m #[(.int p1), (.int p2)] 2)) t := fun t k => by rw [hS0] at k; exact k
  have pre2 : own_Go p e below S0 (s₁.setTop (mkF m 2 #[.val (.int p1), .val (.int p2)] [(.int p2), (.int p1)])) := by
    intro t kt
    refine pre0 t ?_
    refine XS.iloadN X0.here hx rfl (hb hby d24_0) rfl ?_
    refine XS.iloadN X0.here hx rfl (hb hby d24_1) rfl ?_
    exact kt
  by_cases hc1 : p2 < p1
  · have pre3 : own_Go p e below S0 (s₁.setTop (mkF m 10 #[.val (.int p1), .val (.int p2)] [(.int p2)])) := by
      intro t kt
      refine pre2 t ?_
      refine XS.icmpYes X0.here hx rfl (pc0 := 2) (pc' := 9) rfl (hb hby d24_2) rfl (tlt hc1).2.2.1 (by decide) (by decide) ?_
      refine XS.iloadN X0.here hx rfl (hb hby d24_9) rfl ?_
      exact kt
    obtain ⟨fs, hr, hrun, hended, hW, hsame⟩ := X0.leave (v := some (.int p2)) (fun h => by rw [Bd.returns] at h; cases h)
    refine ⟨_, _, fin _ (pre3 _ ?_), hrun, hended, _, _, rfl, ?_, ⟨_, rfl⟩, hW, hsame.mono (by decide) (by decide)⟩
    · exact retI X0 hx Bd.returns (hb hby d24_10) hr
    · show Q24 Z p1 p2 h0 n0 _ s₁.heap _
      rw [e0]
      exact ⟨(by show some _ = some _; rw [own_mn, if_pos hc1]), N0, rfl⟩
  · have pre4 : own_Go p e below S0 (s₁.setTop (mkF m 10 #[.val (.int p1), .val (.int p2)] [(.int p1)])) := by
      intro t kt
      refine pre2 t ?_
      refine XS.icmpNo X0.here hx rfl (hb hby d24_2) rfl (flt hc1).2.2.1 ?_
      refine XS.iloadN X0.here hx rfl (hb hby d24_5) rfl ?_
      refine XS.goto X0.here hx rfl (pc0 := 6) (pc' := 10) rfl (hb hby d24_6) (by decide) (by decide) ?_
      exact kt
    obtain ⟨fs, hr, hrun, hended, hW, hsame⟩ := X0.leave (v := some (.int p1)) (fun h => by rw [Bd.returns] at h; cases h)
    refine ⟨_, _, fin _ (pre4 _ ?_), hrun, hended, _, _, rfl, ?_, ⟨_, rfl⟩, hW, hsame.mono (by decide) (by decide)⟩
    · exact retI X0 hx Bd.returns (hb hby d24_10) hr
    · show Q24 Z p1 p2 h0 n0 _ s₁.heap _
      rw [e0]
      exact ⟨(by show some _ = some _; rw [own_mn, if_neg hc1]), N0, rfl⟩

theorem d25_0 : decode jdk_43_method_23_code 0 = .ok (.iload_n 1, 1) := by decide +kernel
theorem d25_1 : decode jdk_43_method_23_code 1 = .ok (.i2b, 1) := by decide +kernel
theorem d25_2 : decode jdk_43_method_23_code 2 = .ok (.istore 4, 2) := by decide +kernel
theorem d25_4 : decode jdk_43_method_23_code 4 = .ok (.iload_n 2, 1) := by decide +kernel
theorem d25_5 : decode jdk_43_method_23_code 5 = .ok (.istore 5, 2) := by decide +kernel
theorem d25_7 : decode jdk_43_method_23_code 7 = .ok (.iload 5, 2) := by decide +kernel
theorem d25_9 : decode jdk_43_method_23_code 9 = .ok (.iload_n 3, 1) := by decide +kernel
theorem d25_10 : decode jdk_43_method_23_code 10 = .ok (.if_icmp .ge 21, 3) := by decide +kernel
theorem d25_13 : decode jdk_43_method_23_code 13 = .ok (.aload_n 0, 1) := by decide +kernel
theorem d25_14 : decode jdk_43_method_23_code 14 = .ok (.iload 5, 2) := by decide +kernel
theorem d25_16 : decode jdk_43_method_23_code 16 = .ok (.baload, 1) := by decide +kernel
theorem d25_17 : decode jdk_43_method_23_code 17 = .ok (.iload 4, 2) := by decide +kernel
theorem d25_19 : decode jdk_43_method_23_code 19 = .ok (.if_icmp .ne 6, 3) := by decide +kernel
theorem d25_22 : decode jdk_43_method_23_code 22 = .ok (.iload 5, 2) := by decide +kernel
theorem d25_24 : decode jdk_43_method_23_code 24 = .ok (.ireturn, 1) := by decide +kernel
theorem d25_25 : decode jdk_43_method_23_code 25 = .ok (.iinc 5 1, 3) := by decide +kernel
theorem d25_28 : decode jdk_43_method_23_code 28 = .ok (.goto (-21), 3) := by decide +kernel
theorem d25_31 : decode jdk_43_method_23_code 31 = .ok (.iconst (-1), 1) := by decide +kernel
theorem d25_32 : decode jdk_43_method_23_code 32 = .ok (.ireturn, 1) := by decide +kernel
theorem pn_25 : plainName "java/lang/StringLatin1" = true := by first | (simp [plainName, overriddenIn]; done) | decide +kernel
theorem ef_ioc0 (m : MethodId) (x0 : Addr) (x1 : Int32) : entryFrame m #[(.ref x0), (.int x1), (.int 0), (.int 3)] 6 = mkF m 0 #[.val (.ref x0), .val (.int x1), .val (.int 0), .val (.int 3), .unset, .unset] [] := by first | (simp [entryFrame, mkF, argsToLocals, Value.category]; done) | rfl
def own_ioc0 (p2 : Int32) : Int32 := (if (46 : Int32) = (p2.toInt8.toInt32) then (0 : Int32) else (if (95 : Int32) = (p2.toInt8.toInt32) then (1 : Int32) else (if (45 : Int32) = (p2.toInt8.toInt32) then (2 : Int32) else (-1 : Int32))))
def Qioc0 (Z : State) (a1 : Addr) (p2 : Int32) (k1 : ClassId) (h0 : Heap) (n0 : Nat) (v : Option Value) (h : Heap) (L : List Loc) : Prop := v = (some (.int (own_ioc0 p2))) ∧ Fr n0 L ∧ h = h0
set_option maxRecDepth 65536 in
set_option maxHeartbeats 40000000 in
theorem rmioc0 (l : Launch) (Z : State) (a0 : Array Value) (hw : ∀ d ∈ tables_1, d.before a0 Z = true) (ws : List Jvm.Cond) (a1 : Addr) (p2 : Int32) (k1 : ClassId) (h0 : Heap) (n0 : Nat) (Z0 : n0 ≤ h0.size) (V1 : Arv Z h0 a1 k1 .byte (3 : Int32) [(.int 46), (.int 95), (.int 45)] (.int 0)) :
    MetFree l own_m19 (head1 (Jvm.Cond.code own_m19 jdk_43_method_23_code 6 (some .int) :: ws) (own_r 0 0 0 0)) (fun a U => a = #[(.ref a1), (.int p2), (.int 0), (.int 3)] ∧ Z.Warmed39 U.vm ∧ U.heap = h0) (fun _ _ _ _ _ => True) (fun _ U o U' => ∃ v L, o = .returned v ∧ Qioc0 Z a1 p2 k1 h0 n0 v U'.heap L ∧ FrameEnd U o U' L (own_r 0 0 0 0).cells (own_r 0 0 0 0).slots) := by
  refine MetFree.of_bodySF (plainFor_of_name pn_25) hisR ?_
  intro p e s m args below meth c s₁ Bd hml0 hP hK
  obtain ⟨rfl, hZ, hh⟩ := hP
  have hx := Bd.exec
  have hby := Bd.bytes
  have hml : c.maxLocals = 6 := hml0
  have hown0 := findClass_of_methodNamed Bd.named
  have hown : s.vm.findClass "java/lang/StringLatin1" = some m.cls := hown0
  have hnm := (name_of_methodNamed Bd.named Bd.method).1
  have X0 : Stand p l e (own_r 0 0 0 0) s m #[(.ref a1), (.int p2), (.int 0), (.int 3)] below meth c s₁ [] 0 0 := Stand.of_body Bd
  have e0 : s₁.heap = h0 := by rw [← hh, Bd.state]; rfl
  have N0 := Fr.nil n0
  obtain ⟨S0, hS0⟩ : ∃ z, z = s₁.setTop (entryFrame m #[(.ref a1), (.int p2), (.int 0), (.int 3)] 6) := ⟨_, rfl⟩
  have pre0 : own_Go p e below S0 (s₁.setTop (mkF m 0 #[.val (.ref a1), .val (.int p2), .val (.int 0), .val (.int 3), .unset, .unset] [])) := fun t k => by rw [hS0]; exact castTop (ef_ioc0 m a1 p2) k
  have fin : ∀ t, Steps p.tables e below S0 t → Steps p.tables e below (s₁.setTop (entryFrame m #[(.ref a1), (.int p2), (.int 0), (.int 3)] 6)) t := fun t k => by rw [hS0] at k; exact k
  have pre1 : own_Go p e below S0 (s₁.setTop (mkF m 16 #[.val (.ref a1), .val (.int p2), .val (.int 0), .val (.int 3), .val (.int (p2.toInt8.toInt32)), .val (.int 0)] [(.int 0), (.ref a1)])) := by
    intro t kt
    refine pre0 t ?_
    refine XS.iloadN X0.here hx rfl (hb hby d25_0) rfl ?_
    refine XS.i2b X0.here hx rfl (hb hby d25_1) rfl ?_
    refine XS.istore X0.here hx rfl (hb hby d25_2) rfl (l' := #[.val (.ref a1), .val (.int p2), .val (.int 0), .val (.int 3), .val (.int (p2.toInt8.toInt32)), .unset]) rfl ?_
    refine XS.iloadN X0.here hx rfl (hb hby d25_4) rfl ?_
    refine XS.istore X0.here hx rfl (hb hby d25_5) rfl (l' := #[.val (.ref a1), .val (.int p2), .val (.int 0), .val (.int 3), .val (.int (p2.toInt8.toInt32)), .val (.int 0)]) rfl ?_
    refine XS.iload X0.here hx rfl (hb hby d25_7) rfl ?_
    show Steps p.tables e below (s₁.setTop (mkF m 9 #[.val (.ref a1), .val (.int p2), .val (.int 0), .val (.int 3), .val (.int (p2.toInt8.toInt32)), .val (.int 0)] [(.int 0)])) _
    refine XS.iloadN X0.here hx rfl (hb hby d25_9) rfl ?_
    refine XS.icmpNo X0.here hx rfl (hb hby d25_10) rfl (tlt (by decide : (0 : Int32) < (3 : Int32))).2.1 ?_
    refine XS.aloadN X0.here hx rfl (hb hby d25_13) rfl rfl ?_
    refine XS.iload X0.here hx rfl (hb hby d25_14) rfl ?_
    exact kt
  obtain ⟨cl2, Ar2, -, Sz2, -, Hs2, -⟩ := id V1
  have hin2 : ¬ ((0 : Int32) < 0 ∨ cl2.slots.size ≤ ((0 : Int32)).toNatClampNeg) := inb_of Sz2 ⟨by decide, by decide⟩
  have pre4 : own_Go p e below S0 (s₁.setTop (mkF m 19 #[.val (.ref a1), .val (.int p2), .val (.int 0), .val (.int 3), .val (.int (p2.toInt8.toInt32)), .val (.int 0)] [(.int (p2.toInt8.toInt32)), (.int 46)])) := by
    intro t kt
    refine pre1 t ?_
    refine X0.baloadBytes hx (j := (0 : Int32)) (v := (.int 46)) (by rw [e0]; exact Ar2.1) (State.isArrayOf_alike hZ.alike Ar2.2.1) Ar2.2.2 hin2 (Hs2.at hin2 rfl) (g := (mkF m 16 #[.val (.ref a1), .val (.int p2), .val (.int 0), .val (.int 3), .val (.int (p2.toInt8.toInt32)), .val (.int 0)] [(.int 0), (.ref a1)])) rfl rfl (hb hby d25_16) _ ?_
    refine XS.iload X0.here hx rfl (hb hby d25_17) rfl ?_
    exact kt
  by_cases hc3 : (46 : Int32) = (p2.toInt8.toInt32)
  · have pre5 : own_Go p e below S0 (s₁.setTop (mkF m 24 #[.val (.ref a1), .val (.int p2), .val (.int 0), .val (.int 3), .val (.int (p2.toInt8.toInt32)), .val (.int 0)] [(.int 0)])) := by
      intro t kt
      refine pre4 t ?_
      refine XS.icmpNo X0.here hx rfl (hb hby d25_19) rfl (teq hc3).2 ?_
      refine XS.iload X0.here hx rfl (hb hby d25_22) rfl ?_
      exact kt
    obtain ⟨fs, hr, hrun, hended, hW, hsame⟩ := X0.leave (v := some (.int 0)) (fun h => by rw [Bd.returns] at h; cases h)
    refine ⟨_, _, fin _ (pre5 _ ?_), hrun, hended, _, _, rfl, ?_, ⟨_, rfl⟩, hW, hsame.mono (by decide) (by decide)⟩
    · exact retI X0 hx Bd.returns (hb hby d25_24) hr
    · show Qioc0 Z a1 p2 k1 h0 n0 _ s₁.heap _
      rw [e0]
      exact ⟨(by show some _ = some _; rw [own_ioc0, if_pos hc3]), N0, rfl⟩
  · have pre6 : own_Go p e below S0 (s₁.setTop (mkF m 16 #[.val (.ref a1), .val (.int p2), .val (.int 0), .val (.int 3), .val (.int (p2.toInt8.toInt32)), .val (.int 1)] [(.int 1), (.ref a1)])) := by
      intro t kt
      refine pre4 t ?_
      refine XS.icmpYes X0.here hx rfl (pc0 := 19) (pc' := 25) rfl (hb hby d25_19) rfl (feq hc3).2 (by decide) (by decide) ?_
      refine XS.iinc X0.here hx rfl (hb hby d25_25) rfl (l' := #[.val (.ref a1), .val (.int p2), .val (.int 0), .val (.int 3), .val (.int (p2.toInt8.toInt32)), .val (.int 1)]) rfl ?_
      refine XS.goto X0.here hx rfl (pc0 := 28) (pc' := 7) rfl (hb hby d25_28) (by decide) (by decide) ?_
      refine XS.iload X0.here hx rfl (hb hby d25_7) rfl ?_
      refine XS.iloadN X0.here hx rfl (hb hby d25_9) rfl ?_
      refine XS.icmpNo X0.here hx rfl (hb hby d25_10) rfl (tlt (by decide : (1 : Int32) < (3 : Int32))).2.1 ?_
      show Steps p.tables e below (s₁.setTop (mkF m 13 #[.val (.ref a1), .val (.int p2), .val (.int 0), .val (.int 3), .val (.int (p2.toInt8.toInt32)), .val (.int 1)] [])) _
      refine XS.aloadN X0.here hx rfl (hb hby d25_13) rfl rfl ?_
      refine XS.iload X0.here hx rfl (hb hby d25_14) rfl ?_
      exact kt
    obtain ⟨cl7, Ar7, -, Sz7, -, Hs7, -⟩ := id V1
    have hin7 : ¬ ((1 : Int32) < 0 ∨ cl7.slots.size ≤ ((1 : Int32)).toNatClampNeg) := inb_of Sz7 ⟨by decide, by decide⟩
    have pre9 : own_Go p e below S0 (s₁.setTop (mkF m 19 #[.val (.ref a1), .val (.int p2), .val (.int 0), .val (.int 3), .val (.int (p2.toInt8.toInt32)), .val (.int 1)] [(.int (p2.toInt8.toInt32)), (.int 95)])) := by
      intro t kt
      refine pre6 t ?_
      refine X0.baloadBytes hx (j := (1 : Int32)) (v := (.int 95)) (by rw [e0]; exact Ar7.1) (State.isArrayOf_alike hZ.alike Ar7.2.1) Ar7.2.2 hin7 (Hs7.at hin7 rfl) (g := (mkF m 16 #[.val (.ref a1), .val (.int p2), .val (.int 0), .val (.int 3), .val (.int (p2.toInt8.toInt32)), .val (.int 1)] [(.int 1), (.ref a1)])) rfl rfl (hb hby d25_16) _ ?_
      refine XS.iload X0.here hx rfl (hb hby d25_17) rfl ?_
      exact kt
    by_cases hc8 : (95 : Int32) = (p2.toInt8.toInt32)
    · have pre10 : own_Go p e below S0 (s₁.setTop (mkF m 24 #[.val (.ref a1), .val (.int p2), .val (.int 0), .val (.int 3), .val (.int (p2.toInt8.toInt32)), .val (.int 1)] [(.int 1)])) := by
        intro t kt
        refine pre9 t ?_
        refine XS.icmpNo X0.here hx rfl (hb hby d25_19) rfl (teq hc8).2 ?_
        refine XS.iload X0.here hx rfl (hb hby d25_22) rfl ?_
        exact kt
      obtain ⟨fs, hr, hrun, hended, hW, hsame⟩ := X0.leave (v := some (.int 1)) (fun h => by rw [Bd.returns] at h; cases h)
      refine ⟨_, _, fin _ (pre10 _ ?_), hrun, hended, _, _, rfl, ?_, ⟨_, rfl⟩, hW, hsame.mono (by decide) (by decide)⟩
      · exact retI X0 hx Bd.returns (hb hby d25_24) hr
      · show Qioc0 Z a1 p2 k1 h0 n0 _ s₁.heap _
        rw [e0]
        exact ⟨(by show some _ = some _; rw [own_ioc0, if_neg hc3, if_pos hc8]), N0, rfl⟩
    · have pre11 : own_Go p e below S0 (s₁.setTop (mkF m 16 #[.val (.ref a1), .val (.int p2), .val (.int 0), .val (.int 3), .val (.int (p2.toInt8.toInt32)), .val (.int 2)] [(.int 2), (.ref a1)])) := by
        intro t kt
        refine pre9 t ?_
        refine XS.icmpYes X0.here hx rfl (pc0 := 19) (pc' := 25) rfl (hb hby d25_19) rfl (feq hc8).2 (by decide) (by decide) ?_
        refine XS.iinc X0.here hx rfl (hb hby d25_25) rfl (l' := #[.val (.ref a1), .val (.int p2), .val (.int 0), .val (.int 3), .val (.int (p2.toInt8.toInt32)), .val (.int 2)]) rfl ?_
        refine XS.goto X0.here hx rfl (pc0 := 28) (pc' := 7) rfl (hb hby d25_28) (by decide) (by decide) ?_
        refine XS.iload X0.here hx rfl (hb hby d25_7) rfl ?_
        refine XS.iloadN X0.here hx rfl (hb hby d25_9) rfl ?_
        refine XS.icmpNo X0.here hx rfl (hb hby d25_10) rfl (tlt (by decide : (2 : Int32) < (3 : Int32))).2.1 ?_
        show Steps p.tables e below (s₁.setTop (mkF m 13 #[.val (.ref a1), .val (.int p2), .val (.int 0), .val (.int 3), .val (.int (p2.toInt8.toInt32)), .val (.int 2)] [])) _
        refine XS.aloadN X0.here hx rfl (hb hby d25_13) rfl rfl ?_
        refine XS.iload X0.here hx rfl (hb hby d25_14) rfl ?_
        exact kt
      obtain ⟨cl12, Ar12, -, Sz12, -, Hs12, -⟩ := id V1
      have hin12 : ¬ ((2 : Int32) < 0 ∨ cl12.slots.size ≤ ((2 : Int32)).toNatClampNeg) := inb_of Sz12 ⟨by decide, by decide⟩
      have pre14 : own_Go p e below S0 (s₁.setTop (mkF m 19 #[.val (.ref a1), .val (.int p2), .val (.int 0), .val (.int 3), .val (.int (p2.toInt8.toInt32)), .val (.int 2)] [(.int (p2.toInt8.toInt32)), (.int 45)])) := by
        intro t kt
        refine pre11 t ?_
        refine X0.baloadBytes hx (j := (2 : Int32)) (v := (.int 45)) (by rw [e0]; exact Ar12.1) (State.isArrayOf_alike hZ.alike Ar12.2.1) Ar12.2.2 hin12 (Hs12.at hin12 rfl) (g := (mkF m 16 #[.val (.ref a1), .val (.int p2), .val (.int 0), .val (.int 3), .val (.int (p2.toInt8.toInt32)), .val (.int 2)] [(.int 2), (.ref a1)])) rfl rfl (hb hby d25_16) _ ?_
        refine XS.iload X0.here hx rfl (hb hby d25_17) rfl ?_
        exact kt
      by_cases hc13 : (45 : Int32) = (p2.toInt8.toInt32)
      · have pre15 : own_Go p e below S0 (s₁.setTop (mkF m 24 #[.val (.ref a1), .val (.int p2), .val (.int 0), .val (.int 3), .val (.int (p2.toInt8.toInt32)), .val (.int 2)] [(.int 2)])) := by
          intro t kt
          refine pre14 t ?_
          refine XS.icmpNo X0.here hx rfl (hb hby d25_19) rfl (teq hc13).2 ?_
          refine XS.iload X0.here hx rfl (hb hby d25_22) rfl ?_
          exact kt
        obtain ⟨fs, hr, hrun, hended, hW, hsame⟩ := X0.leave (v := some (.int 2)) (fun h => by rw [Bd.returns] at h; cases h)
        refine ⟨_, _, fin _ (pre15 _ ?_), hrun, hended, _, _, rfl, ?_, ⟨_, rfl⟩, hW, hsame.mono (by decide) (by decide)⟩
        · exact retI X0 hx Bd.returns (hb hby d25_24) hr
        · show Qioc0 Z a1 p2 k1 h0 n0 _ s₁.heap _
          rw [e0]
          exact ⟨(by show some _ = some _; rw [own_ioc0, if_neg hc3, if_neg hc8, if_pos hc13]), N0, rfl⟩
      · have pre16 : own_Go p e below S0 (s₁.setTop (mkF m 32 #[.val (.ref a1), .val (.int p2), .val (.int 0), .val (.int 3), .val (.int (p2.toInt8.toInt32)), .val (.int 3)] [(.int (-1 : Int32))])) := by
          intro t kt
          refine pre14 t ?_
          refine XS.icmpYes X0.here hx rfl (pc0 := 19) (pc' := 25) rfl (hb hby d25_19) rfl (feq hc13).2 (by decide) (by decide) ?_
          refine XS.iinc X0.here hx rfl (hb hby d25_25) rfl (l' := #[.val (.ref a1), .val (.int p2), .val (.int 0), .val (.int 3), .val (.int (p2.toInt8.toInt32)), .val (.int 3)]) rfl ?_
          refine XS.goto X0.here hx rfl (pc0 := 28) (pc' := 7) rfl (hb hby d25_28) (by decide) (by decide) ?_
          refine XS.iload X0.here hx rfl (hb hby d25_7) rfl ?_
          refine XS.iloadN X0.here hx rfl (hb hby d25_9) rfl ?_
          refine XS.icmpYes X0.here hx rfl (pc0 := 10) (pc' := 31) rfl (hb hby d25_10) rfl (flt (by decide : ¬ ((3 : Int32) < (3 : Int32)))).2.1 (by decide) (by decide) ?_
          show Steps p.tables e below (s₁.setTop (mkF m 31 #[.val (.ref a1), .val (.int p2), .val (.int 0), .val (.int 3), .val (.int (p2.toInt8.toInt32)), .val (.int 3)] [])) _
          refine XS.iconst X0.here hx rfl (hb hby d25_31) ?_
          exact kt
        obtain ⟨fs, hr, hrun, hended, hW, hsame⟩ := X0.leave (v := some (.int (-1 : Int32))) (fun h => by rw [Bd.returns] at h; cases h)
        refine ⟨_, _, fin _ (pre16 _ ?_), hrun, hended, _, _, rfl, ?_, ⟨_, rfl⟩, hW, hsame.mono (by decide) (by decide)⟩
        · exact retI X0 hx Bd.returns (hb hby d25_32) hr
        · show Qioc0 Z a1 p2 k1 h0 n0 _ s₁.heap _
          rw [e0]
          exact ⟨(by show some _ = some _; rw [own_ioc0, if_neg hc3, if_neg hc8, if_neg hc13]), N0, rfl⟩

theorem d21_0 : decode jdk_43_method_22_code 0 = .ok (.iload_n 1, 1) := by decide +kernel
theorem d21_1 : decode jdk_43_method_22_code 1 = .ok (.invokestatic 88, 3) := by decide +kernel
theorem d21_4 : decode jdk_43_method_22_code 4 = .ok (.ifCond .ne 5, 3) := by decide +kernel
theorem d21_7 : decode jdk_43_method_22_code 7 = .ok (.iconst (-1), 1) := by decide +kernel
theorem d21_8 : decode jdk_43_method_22_code 8 = .ok (.ireturn, 1) := by decide +kernel
theorem d21_9 : decode jdk_43_method_22_code 9 = .ok (.iload_n 2, 1) := by decide +kernel
theorem d21_10 : decode jdk_43_method_22_code 10 = .ok (.iconst 0, 1) := by decide +kernel
theorem d21_11 : decode jdk_43_method_22_code 11 = .ok (.invokestatic 92, 3) := by decide +kernel
theorem d21_14 : decode jdk_43_method_22_code 14 = .ok (.istore_n 2, 1) := by decide +kernel
theorem d21_15 : decode jdk_43_method_22_code 15 = .ok (.iload_n 3, 1) := by decide +kernel
theorem d21_16 : decode jdk_43_method_22_code 16 = .ok (.aload_n 0, 1) := by decide +kernel
theorem d21_17 : decode jdk_43_method_22_code 17 = .ok (.arraylength, 1) := by decide +kernel
theorem d21_18 : decode jdk_43_method_22_code 18 = .ok (.invokestatic 38, 3) := by decide +kernel
theorem d21_21 : decode jdk_43_method_22_code 21 = .ok (.istore_n 3, 1) := by decide +kernel
theorem d21_22 : decode jdk_43_method_22_code 22 = .ok (.iload_n 2, 1) := by decide +kernel
theorem d21_23 : decode jdk_43_method_22_code 23 = .ok (.iload_n 3, 1) := by decide +kernel
theorem d21_24 : decode jdk_43_method_22_code 24 = .ok (.if_icmp .lt 5, 3) := by decide +kernel
theorem d21_29 : decode jdk_43_method_22_code 29 = .ok (.aload_n 0, 1) := by decide +kernel
theorem d21_30 : decode jdk_43_method_22_code 30 = .ok (.iload_n 1, 1) := by decide +kernel
theorem d21_31 : decode jdk_43_method_22_code 31 = .ok (.iload_n 2, 1) := by decide +kernel
theorem d21_32 : decode jdk_43_method_22_code 32 = .ok (.iload_n 3, 1) := by decide +kernel
theorem d21_33 : decode jdk_43_method_22_code 33 = .ok (.invokestatic 95, 3) := by decide +kernel
theorem d21_36 : decode jdk_43_method_22_code 36 = .ok (.ireturn, 1) := by decide +kernel
theorem pn_21 : plainName "java/lang/StringLatin1" = true := by first | (simp [plainName, overriddenIn]; done) | decide +kernel
theorem pd_15 : parseMethodDescriptor "(I)Z" = some ⟨[.int], some .boolean⟩ := by decide +kernel
theorem pd_16 : parseMethodDescriptor "(II)I" = some ⟨[.int, .int], some .int⟩ := by decide +kernel
theorem pd_17 : parseMethodDescriptor "([BIII)I" = some ⟨[(.array .byte), .int, .int, .int], some .int⟩ := by decide +kernel
theorem ef_iof0 (m : MethodId) (x0 : Addr) (x1 : Int32) : entryFrame m #[(.ref x0), (.int x1), (.int 0), (.int 3)] 4 = mkF m 0 #[.val (.ref x0), .val (.int x1), .val (.int 0), .val (.int 3)] [] := by first | (simp [entryFrame, mkF, argsToLocals, Value.category]; done) | rfl
def own_iof0 (p2 : Int32) : Int32 := (if (own_can p2) = (0 : Int32) then (-1 : Int32) else (own_ioc0 p2))
def Qiof0 (Z : State) (a1 : Addr) (p2 : Int32) (k1 : ClassId) (h0 : Heap) (n0 : Nat) (v : Option Value) (h : Heap) (L : List Loc) : Prop := v = (some (.int (own_iof0 p2))) ∧ Fr n0 L ∧ h = h0
set_option maxRecDepth 65536 in
set_option maxHeartbeats 40000000 in
theorem rmiof0 (l : Launch) (Z : State) (a0 : Array Value) (hw : ∀ d ∈ tables_1, d.before a0 Z = true) (ws : List Jvm.Cond) (a1 : Addr) (p2 : Int32) (k1 : ClassId) (h0 : Heap) (n0 : Nat) (Z0 : n0 ≤ h0.size) (V1 : Arv Z h0 a1 k1 .byte (3 : Int32) [(.int 46), (.int 95), (.int 45)] (.int 0)) :
    MetFree l own_m18 (head1 (Jvm.Cond.code own_m18 jdk_43_method_22_code 4 (some .int) :: ws) (own_r 1 0 0 17)) (fun a U => a = #[(.ref a1), (.int p2), (.int 0), (.int 3)] ∧ Z.Warmed39 U.vm ∧ U.heap = h0) (fun _ _ _ _ _ => True) (fun _ U o U' => ∃ v L, o = .returned v ∧ Qiof0 Z a1 p2 k1 h0 n0 v U'.heap L ∧ FrameEnd U o U' L (own_r 1 0 0 17).cells (own_r 1 0 0 17).slots) := by
  refine MetFree.of_bodySF (plainFor_of_name pn_21) hisR ?_
  intro p e s m args below meth c s₁ Bd hml0 hP hK
  obtain ⟨rfl, hZ, hh⟩ := hP
  have hx := Bd.exec
  have hby := Bd.bytes
  have hml : c.maxLocals = 4 := hml0
  have hown0 := findClass_of_methodNamed Bd.named
  have hown : s.vm.findClass "java/lang/StringLatin1" = some m.cls := hown0
  have hnm := (name_of_methodNamed Bd.named Bd.method).1
  have X0 : Stand p l e (own_r 1 0 0 17) s m #[(.ref a1), (.int p2), (.int 0), (.int 3)] below meth c s₁ [] 0 0 := Stand.of_body Bd
  have e0 : s₁.heap = h0 := by rw [← hh, Bd.state]; rfl
  have N0 := Fr.nil n0
  obtain ⟨S0, hS0⟩ : ∃ z, z = s₁.setTop (entryFrame m #[(.ref a1), (.int p2), (.int 0), (.int 3)] 4) := ⟨_, rfl⟩
  have pre0 : own_Go p e below S0 (s₁.setTop (mkF m 0 #[.val (.ref a1), .val (.int p2), .val (.int 0), .val (.int 3)] [])) := fun t k => by rw [hS0]; exact castTop (ef_iof0 m a1 p2) k
  have fin : ∀ t, Steps p.tables e below S0 t → Steps p.tables e below (s₁.setTop (entryFrame m #[(.ref a1), (.int p2), (.int 0), (.int 3)] 4)) t := fun t k => by rw [hS0] at k; exact k
  have pre1 : own_Go p e below S0 (s₁.setTop (mkF m 1 #[.val (.ref a1), .val (.int p2), .val (.int 0), .val (.int 3)] [(.int p2)])) := by
    intro t kt
    refine pre0 t ?_
    refine XS.iloadN X0.here hx rfl (hb hby d21_0) rfl ?_
    exact kt
  obtain ⟨_, _, ⟨T2, L2, k2, n2⟩, -, X2, ⟨Lc2, hQ2, l2, y2, z2⟩, st2⟩ := Jvm.LawKit.callS X0 hx (y := own_m16) hown (mvT hZ (hw _ (own_w 104 rfl))) (mvT hZ (hw _ (own_w 105 rfl))) (mvT hZ (hw _ (own_w 74 rfl))) (mvT hZ (hw _ (own_w 106 rfl))) (by decide) (backOf (W := 0) (rm22 l Z a0 hw [] p2 h0 n0 Z0 ) hZ (hw _ (own_w 106 rfl)) (hw _ (own_w 74 rfl)) (by decide) (by decide)) (g := (mkF m 1 #[.val (.ref a1), .val (.int p2), .val (.int 0), .val (.int 3)] [(.int p2)])) rfl (by rw [hml]; rfl) (argsL := [(.int p2)]) (rest := []) (lenOf pd_15 rfl) rfl (by show 2 * 0 + _ ≤ _; exact Nat.le_of_eq rfl) (hb hby d21_1) (fun _ _ => ⟨rfl, e0, (by decide : 0 + 0 ≤ _), (by decide : 0 + 0 ≤ _)⟩)
  dsimp only [Pt.U, Pt.locs, Pt.cells, Pt.slots] at X2 l2 y2 z2 st2 hQ2
  subst l2 y2 z2
  obtain ⟨rfl, Nq2, eq2⟩ := hQ2
  have N2 := Fr.app N0 Nq2
  have pre4 : own_Go p e below S0 (T2.setTop (mkF m 4 #[.val (.ref a1), .val (.int p2), .val (.int 0), .val (.int 3)] [(.int (own_can p2))])) := by
    intro t kt
    refine pre1 t ?_
    refine st2 _ ?_
    show Steps p.tables e below (T2.setTop (mkF m 4 #[.val (.ref a1), .val (.int p2), .val (.int 0), .val (.int 3)] [(.int (own_can p2))])) _
    exact kt
  by_cases hc3 : (own_can p2) = (0 : Int32)
  · have pre5 : own_Go p e below S0 (T2.setTop (mkF m 8 #[.val (.ref a1), .val (.int p2), .val (.int 0), .val (.int 3)] [(.int (-1 : Int32))])) := by
      intro t kt
      refine pre4 t ?_
      refine XS.ifNo X2.here hx rfl (hb hby d21_4) rfl ((if0 _ _).trans (teq hc3).2) ?_
      refine XS.iconst X2.here hx rfl (hb hby d21_7) ?_
      exact kt
    obtain ⟨fs, hr, hrun, hended, hW, hsame⟩ := X2.leave (v := some (.int (-1 : Int32))) (fun h => by rw [Bd.returns] at h; cases h)
    refine ⟨_, _, fin _ (pre5 _ ?_), hrun, hended, _, _, rfl, ?_, ⟨_, rfl⟩, hW, hsame.mono (by decide) (by decide)⟩
    · exact retI X2 hx Bd.returns (hb hby d21_8) hr
    · show Qiof0 Z a1 p2 k1 h0 n0 _ T2.heap _
      rw [eq2]
      exact ⟨(by show some _ = some _; rw [own_iof0, if_pos hc3]), N2, rfl⟩
  · have pre6 : own_Go p e below S0 (T2.setTop (mkF m 11 #[.val (.ref a1), .val (.int p2), .val (.int 0), .val (.int 3)] [(.int 0), (.int 0)])) := by
      intro t kt
      refine pre4 t ?_
      refine XS.ifYes X2.here hx rfl (pc0 := 4) (pc' := 9) rfl (hb hby d21_4) rfl ((if0 _ _).trans (feq hc3).2) (by decide) (by decide) ?_
      refine XS.iloadN X2.here hx rfl (hb hby d21_9) rfl ?_
      refine XS.iconst X2.here hx rfl (hb hby d21_10) ?_
      exact kt
    obtain ⟨_, _, ⟨T7, L7, k7, n7⟩, -, X7, ⟨Lc7, hQ7, l7, y7, z7⟩, st7⟩ := Jvm.LawKit.callS X2 hx (y := own_m4) hown (mvT hZ (hw _ (own_w 107 rfl))) (mvT hZ (hw _ (own_w 108 rfl))) (mvT hZ (hw _ (own_w 109 rfl))) (mvT hZ (hw _ (own_w 110 rfl))) (by decide) (backOf (W := 0) (rm23 l Z a0 hw [] (0 : Int32) (0 : Int32) h0 n0 Z0 ) hZ (hw _ (own_w 110 rfl)) (hw _ (own_w 109 rfl)) (by decide) (by decide)) (g := (mkF m 11 #[.val (.ref a1), .val (.int p2), .val (.int 0), .val (.int 3)] [(.int 0), (.int 0)])) rfl (by rw [hml]; rfl) (argsL := [(.int 0), (.int 0)]) (rest := []) (lenOf pd_16 rfl) rfl (by show 2 * 0 + _ ≤ _; exact Nat.le_of_eq rfl) (hb hby d21_11) (fun _ _ => ⟨rfl, eq2, (by decide : 0 + 0 ≤ _), (by decide : 0 + 0 ≤ _)⟩)
    dsimp only [Pt.U, Pt.locs, Pt.cells, Pt.slots] at X7 l7 y7 z7 st7 hQ7
    subst l7 y7 z7
    obtain ⟨rfl, Nq7, eq7⟩ := hQ7
    have N7 := Fr.app N2 Nq7
    have pre8 : own_Go p e below S0 (T7.setTop (mkF m 14 #[.val (.ref a1), .val (.int p2), .val (.int 0), .val (.int 3)] [(.int (own_mx (0 : Int32) (0 : Int32)))])) := by
      intro t kt
      refine pre6 t ?_
      refine st7 _ ?_
      show Steps p.tables e below (T7.setTop (mkF m 14 #[.val (.ref a1), .val (.int p2), .val (.int 0), .val (.int 3)] [(.int (own_mx (0 : Int32) (0 : Int32)))])) _
      exact kt
    have pre9 : own_Go p e below S0 (T7.setTop (mkF m 14 #[.val (.ref a1), .val (.int p2), .val (.int 0), .val (.int 3)] [(.int 0)])) := by
      intro t kt
      refine pre8 t ?_
      rw [(by decide : (own_mx (0 : Int32) (0 : Int32)) = (0 : Int32))]
      exact kt
    have pre10 : own_Go p e below S0 (T7.setTop (mkF m 17 #[.val (.ref a1), .val (.int p2), .val (.int 0), .val (.int 3)] [(.ref a1), (.int 3)])) := by
      intro t kt
      refine pre9 t ?_
      refine XS.istoreN X7.here hx rfl (hb hby d21_14) rfl (l' := #[.val (.ref a1), .val (.int p2), .val (.int 0), .val (.int 3)]) rfl ?_
      refine XS.iloadN X7.here hx rfl (hb hby d21_15) rfl ?_
      refine XS.aloadN X7.here hx rfl (hb hby d21_16) rfl rfl ?_
      exact kt
    obtain ⟨cl11, Ar11, -, Sz11, Ng11, -, -⟩ := id V1
    have pre12 : own_Go p e below S0 (T7.setTop (mkF m 18 #[.val (.ref a1), .val (.int p2), .val (.int 0), .val (.int 3)] [(.int 3), (.int 3)])) := by
      intro t kt
      refine pre10 t ?_
      refine X7.arraylength hx (by rw [eq7]; exact Ar11.1) (State.isArrayOf_alike hZ.alike Ar11.2.1) (g := (mkF m 17 #[.val (.ref a1), .val (.int p2), .val (.int 0), .val (.int 3)] [(.ref a1), (.int 3)])) rfl rfl (hb hby d21_17) _ ?_
      rw [len_of Sz11 Ng11]
      show Steps p.tables e below (T7.setTop (mkF m 18 #[.val (.ref a1), .val (.int p2), .val (.int 0), .val (.int 3)] [(.int 3), (.int 3)])) _
      exact kt
    obtain ⟨_, _, ⟨T13, L13, k13, n13⟩, -, X13, ⟨Lc13, hQ13, l13, y13, z13⟩, st13⟩ := Jvm.LawKit.callS X7 hx (y := own_m5) hown (mvT hZ (hw _ (own_w 111 rfl))) (mvT hZ (hw _ (own_w 112 rfl))) (mvT hZ (hw _ (own_w 109 rfl))) (mvT hZ (hw _ (own_w 113 rfl))) (by decide) (backOf (W := 0) (rm24 l Z a0 hw [] (3 : Int32) (3 : Int32) h0 n0 Z0 ) hZ (hw _ (own_w 113 rfl)) (hw _ (own_w 109 rfl)) (by decide) (by decide)) (g := (mkF m 18 #[.val (.ref a1), .val (.int p2), .val (.int 0), .val (.int 3)] [(.int 3), (.int 3)])) rfl (by rw [hml]; rfl) (argsL := [(.int 3), (.int 3)]) (rest := []) (lenOf pd_16 rfl) rfl (by show 2 * 0 + _ ≤ _; exact Nat.le_of_eq rfl) (hb hby d21_18) (fun _ _ => ⟨rfl, eq7, (by decide : 0 + 0 ≤ _), (by decide : 0 + 0 ≤ _)⟩)
    dsimp only [Pt.U, Pt.locs, Pt.cells, Pt.slots] at X13 l13 y13 z13 st13 hQ13
    subst l13 y13 z13
    obtain ⟨rfl, Nq13, eq13⟩ := hQ13
    have N13 := Fr.app N7 Nq13
    have pre14 : own_Go p e below S0 (T13.setTop (mkF m 21 #[.val (.ref a1), .val (.int p2), .val (.int 0), .val (.int 3)] [(.int (own_mn (3 : Int32) (3 : Int32)))])) := by
      intro t kt
      refine pre12 t ?_
      refine st13 _ ?_
      show Steps p.tables e below (T13.setTop (mkF m 21 #[.val (.ref a1), .val (.int p2), .val (.int 0), .val (.int 3)] [(.int (own_mn (3 : Int32) (3 : Int32)))])) _
      exact kt
    have pre15 : own_Go p e below S0 (T13.setTop (mkF m 21 #[.val (.ref a1), .val (.int p2), .val (.int 0), .val (.int 3)] [(.int 3)])) := by
      intro t kt
      refine pre14 t ?_
      rw [(by decide : (own_mn (3 : Int32) (3 : Int32)) = (3 : Int32))]
      exact kt
    have pre16 : own_Go p e below S0 (T13.setTop (mkF m 33 #[.val (.ref a1), .val (.int p2), .val (.int 0), .val (.int 3)] [(.int 3), (.int 0), (.int p2), (.ref a1)])) := by
      intro t kt
      refine pre15 t ?_
      refine XS.istoreN X13.here hx rfl (hb hby d21_21) rfl (l' := #[.val (.ref a1), .val (.int p2), .val (.int 0), .val (.int 3)]) rfl ?_
      refine XS.iloadN X13.here hx rfl (hb hby d21_22) rfl ?_
      refine XS.iloadN X13.here hx rfl (hb hby d21_23) rfl ?_
      refine XS.icmpYes X13.here hx rfl (pc0 := 24) (pc' := 29) rfl (hb hby d21_24) rfl (tlt (by decide : (0 : Int32) < (3 : Int32))).1 (by decide) (by decide) ?_
      refine XS.aloadN X13.here hx rfl (hb hby d21_29) rfl rfl ?_
      refine XS.iloadN X13.here hx rfl (hb hby d21_30) rfl ?_
      show Steps p.tables e below (T13.setTop (mkF m 31 #[.val (.ref a1), .val (.int p2), .val (.int 0), .val (.int 3)] [(.int p2), (.ref a1)])) _
      refine XS.iloadN X13.here hx rfl (hb hby d21_31) rfl ?_
      refine XS.iloadN X13.here hx rfl (hb hby d21_32) rfl ?_
      exact kt
    obtain ⟨_, _, ⟨T17, L17, k17, n17⟩, -, X17, ⟨Lc17, hQ17, l17, y17, z17⟩, st17⟩ := Jvm.LawKit.callS X13 hx (y := own_m19) hown (mvT hZ (hw _ (own_w 114 rfl))) (mvT hZ (hw _ (own_w 115 rfl))) (mvT hZ (hw _ (own_w 74 rfl))) (mvT hZ (hw _ (own_w 116 rfl))) (by decide) (backOf (W := 0) (rmioc0 l Z a0 hw [] a1 p2 k1 h0 n0 Z0 V1) hZ (hw _ (own_w 116 rfl)) (hw _ (own_w 74 rfl)) (by decide) (by decide)) (g := (mkF m 33 #[.val (.ref a1), .val (.int p2), .val (.int 0), .val (.int 3)] [(.int 3), (.int 0), (.int p2), (.ref a1)])) rfl (by rw [hml]; rfl) (argsL := [(.ref a1), (.int p2), (.int 0), (.int 3)]) (rest := []) (lenOf pd_17 rfl) rfl (by show 2 * 0 + _ ≤ _; exact Nat.le_of_eq rfl) (hb hby d21_33) (fun _ _ => ⟨rfl, eq13, (by decide : 0 + 0 ≤ _), (by decide : 0 + 0 ≤ _)⟩)
    dsimp only [Pt.U, Pt.locs, Pt.cells, Pt.slots] at X17 l17 y17 z17 st17 hQ17
    subst l17 y17 z17
    obtain ⟨rfl, Nq17, eq17⟩ := hQ17
    have N17 := Fr.app N13 Nq17
    have pre18 : own_Go p e below S0 (T17.setTop (mkF m 36 #[.val (.ref a1), .val (.int p2), .val (.int 0), .val (.int 3)] [(.int (own_ioc0 p2))])) := by
      intro t kt
      refine pre16 t ?_
      refine st17 _ ?_
      show Steps p.tables e below (T17.setTop (mkF m 36 #[.val (.ref a1), .val (.int p2), .val (.int 0), .val (.int 3)] [(.int (own_ioc0 p2))])) _
      exact kt
    obtain ⟨fs, hr, hrun, hended, hW, hsame⟩ := X17.leave (v := some (.int (own_ioc0 p2))) (fun h => by rw [Bd.returns] at h; cases h)
    refine ⟨_, _, fin _ (pre18 _ ?_), hrun, hended, _, _, rfl, ?_, ⟨_, rfl⟩, hW, hsame.mono (by decide) (by decide)⟩
    · exact retI X17 hx Bd.returns (hb hby d21_36) hr
    · show Qiof0 Z a1 p2 k1 h0 n0 _ T17.heap _
      rw [eq17]
      exact ⟨(by show some _ = some _; rw [own_iof0, if_neg hc3]), N17, rfl⟩

theorem ef_lenP0 (m : MethodId) (x0 : Addr) : entryFrame m #[(.ref x0)] 1 = mkF m 0 #[.val (.ref x0)] [] := by first | (simp [entryFrame, mkF, argsToLocals, Value.category]; done) | rfl
def QlenP0 (Z : State) (a1 : Addr) (wC : Int32) (vb : Addr) (k1 : ClassId) (h0 : Heap) (n0 : Nat) (v : Option Value) (h : Heap) (L : List Loc) : Prop := v = (some (.int 3)) ∧ Fr n0 L ∧ h = h0
set_option maxRecDepth 65536 in
set_option maxHeartbeats 40000000 in
theorem rmlenP0 (l : Launch) (Z : State) (a0 : Array Value) (hw : ∀ d ∈ tables_1, d.before a0 Z = true) (ws : List Jvm.Cond) (a1 : Addr) (wC : Int32) (vb : Addr) (k1 : ClassId) (h0 : Heap) (n0 : Nat) (Z0 : n0 ≤ h0.size) (O0 : Old Z n0 h0) (qC : (own_SC Z wC)) (pE1 : Exa Z h0 a1 "java/lang/String") (FC : Fld Z h0 a1 "java/lang/String" "coder" "B" (.int 0)) (FV : Fld Z h0 a1 "java/lang/String" "value" "[B" (.ref vb)) (V1 : Arv Z h0 vb k1 .byte (3 : Int32) [(.int 46), (.int 95), (.int 45)] (.int 0)) :
    MetFree l own_m15 (head1 (Jvm.Cond.code own_m15 jdk_42_method_54_code 1 (some .int) :: ws) (own_r 1 0 0 13)) (fun a U => a = #[(.ref a1)] ∧ Z.Warmed39 U.vm ∧ U.heap = h0) (fun _ _ _ _ _ => True) (fun _ U o U' => ∃ v L, o = .returned v ∧ QlenP0 Z a1 wC vb k1 h0 n0 v U'.heap L ∧ FrameEnd U o U' L (own_r 1 0 0 13).cells (own_r 1 0 0 13).slots) := by
  refine MetFree.of_bodySF (plainFor_of_name pn_11) hisR ?_
  intro p e s m args below meth c s₁ Bd hml0 hP hK
  obtain ⟨rfl, hZ, hh⟩ := hP
  have hx := Bd.exec
  have hby := Bd.bytes
  have hml : c.maxLocals = 1 := hml0
  have hown0 := findClass_of_methodNamed Bd.named
  have hown : s.vm.findClass "java/lang/String" = some m.cls := hown0
  have hnm := (name_of_methodNamed Bd.named Bd.method).1
  have X0 : Stand p l e (own_r 1 0 0 13) s m #[(.ref a1)] below meth c s₁ [] 0 0 := Stand.of_body Bd
  have e0 : s₁.heap = h0 := by rw [← hh, Bd.state]; rfl
  have N0 := Fr.nil n0
  obtain ⟨S0, hS0⟩ : ∃ z, z = s₁.setTop (entryFrame m #[(.ref a1)] 1) := ⟨_, rfl⟩
  have pre0 : own_Go p e below S0 (s₁.setTop (mkF m 0 #[.val (.ref a1)] [])) := fun t k => by rw [hS0]; exact castTop (ef_lenP0 m a1) k
  have fin : ∀ t, Steps p.tables e below S0 t → Steps p.tables e below (s₁.setTop (entryFrame m #[(.ref a1)] 1)) t := fun t k => by rw [hS0] at k; exact k
  have pre1 : own_Go p e below S0 (s₁.setTop (mkF m 1 #[.val (.ref a1)] [(.ref a1)])) := by
    intro t kt
    refine pre0 t ?_
    refine XS.aloadN X0.here hx rfl (hb hby d11_0) rfl rfl ?_
    exact kt
  obtain ⟨T2, X2, e2, st2⟩ := getF X0 hx hZ hown (host := "") (Or.inl (hw _ (own_w 37 rfl))) Via.refl e0 FV (g := (mkF m 1 #[.val (.ref a1)] [(.ref a1)])) rfl rfl (hb hby d11_1)
  have pre3 : own_Go p e below S0 (T2.setTop (mkF m 4 #[.val (.ref a1)] [(.ref vb)])) := by
    intro t kt
    refine pre1 t ?_
    refine st2 _ ?_
    exact kt
  obtain ⟨cl4, Ar4, -, Sz4, Ng4, -, -⟩ := id V1
  have pre5 : own_Go p e below S0 (T2.setTop (mkF m 6 #[.val (.ref a1)] [(.ref a1), (.int 3)])) := by
    intro t kt
    refine pre3 t ?_
    refine X2.arraylength hx (by rw [e2]; exact Ar4.1) (State.isArrayOf_alike hZ.alike Ar4.2.1) (g := (mkF m 4 #[.val (.ref a1)] [(.ref vb)])) rfl rfl (hb hby d11_4) _ ?_
    rw [len_of Sz4 Ng4]
    show Steps p.tables e below (T2.setTop (mkF m 5 #[.val (.ref a1)] [(.int 3)])) _
    refine XS.aloadN X2.here hx rfl (hb hby d11_5) rfl rfl ?_
    exact kt
  obtain ⟨cq6, kq6, qa6, qb6, qc6⟩ := isOf hZ e2 pE1
  obtain ⟨_, _, ⟨T6, L6, k6, n6⟩, -, X6, ⟨Lc6, hQ6, l6, y6, z6⟩, st6⟩ := X2.virtualBack hx (y := own_m10) (z := own_m10) hown (mvT hZ (hw _ (own_w 57 rfl))) (mvT hZ (hw _ (own_w 58 rfl))) (notFace_of_selects (args := #[]) (mvT hZ (hw _ (own_w 60 rfl)))) (mvT hZ (hw _ (own_w 60 rfl))) (mvT hZ (hw _ (own_w 59 rfl))) (by decide) (backOf (W := 1) (rmcoder0 l Z a0 hw [] a1 wC h0 n0 Z0 O0 qC FC) hZ (hw _ (own_w 61 rfl)) (hw _ (own_w 11 rfl)) (by decide) (by decide)) qa6 qc6 (g := (mkF m 6 #[.val (.ref a1)] [(.ref a1), (.int 3)])) rfl (by rw [hml]; rfl) (Steps.refl _) (argsL := []) (rest := [(.int 3)]) (lenOf pd_8 rfl) rfl (by show 2 * 0 + _ ≤ _; exact Nat.le_of_eq rfl) (hb hby d11_6) (fun _ _ => ⟨rfl, e2, (by decide : 0 + 0 ≤ _), (by decide : 0 + 0 ≤ _)⟩)
  dsimp only [Pt.U, Pt.locs, Pt.cells, Pt.slots] at X6 l6 y6 z6 st6 hQ6
  subst l6 y6 z6
  obtain ⟨rfl, Nq6, eq6⟩ := hQ6
  have N6 := Fr.app N0 Nq6
  have pre7 : own_Go p e below S0 (T6.setTop (mkF m 10 #[.val (.ref a1)] [(.int 3)])) := by
    intro t kt
    refine pre5 t ?_
    refine st6.trans ?_
    show Steps p.tables e below (T6.setTop (mkF m 9 #[.val (.ref a1)] [(.int 0), (.int 3)])) _
    refine XS.ishr X6.here hx rfl (hb hby d11_9) rfl ?_
    exact kt
  obtain ⟨fs, hr, hrun, hended, hW, hsame⟩ := X6.leave (v := some (.int 3)) (fun h => by rw [Bd.returns] at h; cases h)
  refine ⟨_, _, fin _ (pre7 _ ?_), hrun, hended, _, _, rfl, ?_, ⟨_, rfl⟩, hW, hsame.mono (by decide) (by decide)⟩
  · exact retI X6 hx Bd.returns (hb hby d11_10) hr
  · show QlenP0 Z a1 wC vb k1 h0 n0 _ T6.heap _
    rw [eq6]
    exact ⟨rfl, N6, rfl⟩

theorem d20_0 : decode jdk_42_method_80_code 0 = .ok (.aload_n 0, 1) := by decide +kernel
theorem d20_1 : decode jdk_42_method_80_code 1 = .ok (.invokevirtual 492, 3) := by decide +kernel
theorem d20_4 : decode jdk_42_method_80_code 4 = .ok (.ifCond .eq 19, 3) := by decide +kernel
theorem d20_7 : decode jdk_42_method_80_code 7 = .ok (.aload_n 0, 1) := by decide +kernel
theorem d20_8 : decode jdk_42_method_80_code 8 = .ok (.getfield 9, 3) := by decide +kernel
theorem d20_11 : decode jdk_42_method_80_code 11 = .ok (.iload_n 1, 1) := by decide +kernel
theorem d20_12 : decode jdk_42_method_80_code 12 = .ok (.iload_n 2, 1) := by decide +kernel
theorem d20_13 : decode jdk_42_method_80_code 13 = .ok (.aload_n 0, 1) := by decide +kernel
theorem d20_14 : decode jdk_42_method_80_code 14 = .ok (.invokevirtual 505, 3) := by decide +kernel
theorem d20_17 : decode jdk_42_method_80_code 17 = .ok (.invokestatic 637, 3) := by decide +kernel
theorem d20_20 : decode jdk_42_method_80_code 20 = .ok (.goto 16, 3) := by decide +kernel
theorem d20_36 : decode jdk_42_method_80_code 36 = .ok (.ireturn, 1) := by decide +kernel
theorem pn_20 : plainName "java/lang/String" = true := by first | (simp [plainName, overriddenIn]; done) | decide +kernel
theorem pd_18 : parseMethodDescriptor "()I" = some ⟨[], some .int⟩ := by decide +kernel
theorem ef_io2_0 (m : MethodId) (x0 : Addr) (x1 : Int32) : entryFrame m #[(.ref x0), (.int x1), (.int 0)] 3 = mkF m 0 #[.val (.ref x0), .val (.int x1), .val (.int 0)] [] := by first | (simp [entryFrame, mkF, argsToLocals, Value.category]; done) | rfl
def Qio2_0 (Z : State) (a1 : Addr) (p2 : Int32) (wC : Int32) (vb : Addr) (k1 : ClassId) (h0 : Heap) (n0 : Nat) (v : Option Value) (h : Heap) (L : List Loc) : Prop := v = (some (.int (own_iof0 p2))) ∧ Fr n0 L ∧ h = h0
set_option maxRecDepth 65536 in
set_option maxHeartbeats 40000000 in
theorem rmio2_0 (l : Launch) (Z : State) (a0 : Array Value) (hw : ∀ d ∈ tables_1, d.before a0 Z = true) (ws : List Jvm.Cond) (a1 : Addr) (p2 : Int32) (wC : Int32) (vb : Addr) (k1 : ClassId) (h0 : Heap) (n0 : Nat) (Z0 : n0 ≤ h0.size) (O0 : Old Z n0 h0) (qC : (own_SC Z wC)) (pE1 : Exa Z h0 a1 "java/lang/String") (FC : Fld Z h0 a1 "java/lang/String" "coder" "B" (.int 0)) (FV : Fld Z h0 a1 "java/lang/String" "value" "[B" (.ref vb)) (V1 : Arv Z h0 vb k1 .byte (3 : Int32) [(.int 46), (.int 95), (.int 45)] (.int 0)) :
    MetFree l own_m12 (head1 (Jvm.Cond.code own_m12 jdk_42_method_80_code 3 (some .int) :: ws) (own_r 2 0 0 32)) (fun a U => a = #[(.ref a1), (.int p2), (.int 0)] ∧ Z.Warmed39 U.vm ∧ U.heap = h0) (fun _ _ _ _ _ => True) (fun _ U o U' => ∃ v L, o = .returned v ∧ Qio2_0 Z a1 p2 wC vb k1 h0 n0 v U'.heap L ∧ FrameEnd U o U' L (own_r 2 0 0 32).cells (own_r 2 0 0 32).slots) := by
  refine MetFree.of_bodySF (plainFor_of_name pn_20) hisR ?_
  intro p e s m args below meth c s₁ Bd hml0 hP hK
  obtain ⟨rfl, hZ, hh⟩ := hP
  have hx := Bd.exec
  have hby := Bd.bytes
  have hml : c.maxLocals = 3 := hml0
  have hown0 := findClass_of_methodNamed Bd.named
  have hown : s.vm.findClass "java/lang/String" = some m.cls := hown0
  have hnm := (name_of_methodNamed Bd.named Bd.method).1
  have X0 : Stand p l e (own_r 2 0 0 32) s m #[(.ref a1), (.int p2), (.int 0)] below meth c s₁ [] 0 0 := Stand.of_body Bd
  have e0 : s₁.heap = h0 := by rw [← hh, Bd.state]; rfl
  have N0 := Fr.nil n0
  obtain ⟨S0, hS0⟩ : ∃ z, z = s₁.setTop (entryFrame m #[(.ref a1), (.int p2), (.int 0)] 3) := ⟨_, rfl⟩
  have pre0 : own_Go p e below S0 (s₁.setTop (mkF m 0 #[.val (.ref a1), .val (.int p2), .val (.int 0)] [])) := fun t k => by rw [hS0]; exact castTop (ef_io2_0 m a1 p2) k
  have fin : ∀ t, Steps p.tables e below S0 t → Steps p.tables e below (s₁.setTop (entryFrame m #[(.ref a1), (.int p2), (.int 0)] 3)) t := fun t k => by rw [hS0] at k; exact k
  have pre1 : own_Go p e below S0 (s₁.setTop (mkF m 1 #[.val (.ref a1), .val (.int p2), .val (.int 0)] [(.ref a1)])) := by
    intro t kt
    refine pre0 t ?_
    refine XS.aloadN X0.here hx rfl (hb hby d20_0) rfl rfl ?_
    exact kt
  obtain ⟨cq2, kq2, qa2, qb2, qc2⟩ := isOf hZ e0 pE1
  obtain ⟨_, _, ⟨T2, L2, k2, n2⟩, -, X2, ⟨Lc2, hQ2, l2, y2, z2⟩, st2⟩ := X0.virtualBack hx (y := own_m14) (z := own_m14) hown (mvT hZ (hw _ (own_w 67 rfl))) (mvT hZ (hw _ (own_w 68 rfl))) (notFace_of_selects (args := #[]) (mvT hZ (hw _ (own_w 70 rfl)))) (mvT hZ (hw _ (own_w 70 rfl))) (mvT hZ (hw _ (own_w 69 rfl))) (by decide) (backOf (W := 0) (rmisLat0 l Z a0 hw [] a1 wC h0 n0 Z0 O0 qC FC) hZ (hw _ (own_w 71 rfl)) (hw _ (own_w 11 rfl)) (by decide) (by decide)) qa2 qc2 (g := (mkF m 1 #[.val (.ref a1), .val (.int p2), .val (.int 0)] [(.ref a1)])) rfl (by rw [hml]; rfl) (Steps.refl _) (argsL := []) (rest := []) (lenOf pd_13 rfl) rfl (by show 2 * 0 + _ ≤ _; exact Nat.le_of_eq rfl) (hb hby d20_1) (fun _ _ => ⟨rfl, e0, (by decide : 0 + 0 ≤ _), (by decide : 0 + 0 ≤ _)⟩)
  dsimp only [Pt.U, Pt.locs, Pt.cells, Pt.slots] at X2 l2 y2 z2 st2 hQ2
  subst l2 y2 z2
  obtain ⟨rfl, Nq2, eq2⟩ := hQ2
  have N2 := Fr.app N0 Nq2
  have pre3 : own_Go p e below S0 (T2.setTop (mkF m 8 #[.val (.ref a1), .val (.int p2), .val (.int 0)] [(.ref a1)])) := by
    intro t kt
    refine pre1 t ?_
    refine st2.trans ?_
    show Steps p.tables e below (T2.setTop (mkF m 4 #[.val (.ref a1), .val (.int p2), .val (.int 0)] [(.int 1)])) _
    refine XS.ifNo X2.here hx rfl (hb hby d20_4) rfl ((if0 _ _).trans (feq (by decide : ¬ ((1 : Int32) = (0 : Int32)))).1) ?_
    refine XS.aloadN X2.here hx rfl (hb hby d20_7) rfl rfl ?_
    exact kt
  obtain ⟨T4, X4, e4, st4⟩ := getF X2 hx hZ hown (host := "") (Or.inl (hw _ (own_w 37 rfl))) Via.refl eq2 FV (g := (mkF m 8 #[.val (.ref a1), .val (.int p2), .val (.int 0)] [(.ref a1)])) rfl rfl (hb hby d20_8)
  have pre5 : own_Go p e below S0 (T4.setTop (mkF m 14 #[.val (.ref a1), .val (.int p2), .val (.int 0)] [(.ref a1), (.int 0), (.int p2), (.ref vb)])) := by
    intro t kt
    refine pre3 t ?_
    refine st4 _ ?_
    refine XS.iloadN X4.here hx rfl (hb hby d20_11) rfl ?_
    refine XS.iloadN X4.here hx rfl (hb hby d20_12) rfl ?_
    refine XS.aloadN X4.here hx rfl (hb hby d20_13) rfl rfl ?_
    exact kt
  obtain ⟨cq6, kq6, qa6, qb6, qc6⟩ := isOf hZ e4 pE1
  obtain ⟨_, _, ⟨T6, L6, k6, n6⟩, -, X6, ⟨Lc6, hQ6, l6, y6, z6⟩, st6⟩ := X4.virtualBack hx (y := own_m15) (z := own_m15) hown (mvT hZ (hw _ (own_w 100 rfl))) (mvT hZ (hw _ (own_w 53 rfl))) (notFace_of_selects (args := #[]) (mvT hZ (hw _ (own_w 55 rfl)))) (mvT hZ (hw _ (own_w 55 rfl))) (mvT hZ (hw _ (own_w 54 rfl))) (by decide) (backOf (W := 3) (rmlenP0 l Z a0 hw [] a1 wC vb k1 h0 n0 Z0 O0 qC pE1 FC FV V1) hZ (hw _ (own_w 56 rfl)) (hw _ (own_w 11 rfl)) (by decide) (by decide)) qa6 qc6 (g := (mkF m 14 #[.val (.ref a1), .val (.int p2), .val (.int 0)] [(.ref a1), (.int 0), (.int p2), (.ref vb)])) rfl (by rw [hml]; rfl) (Steps.refl _) (argsL := []) (rest := [(.int 0), (.int p2), (.ref vb)]) (lenOf pd_18 rfl) rfl (by show 2 * 0 + _ ≤ _; exact Nat.le_of_eq rfl) (hb hby d20_14) (fun _ _ => ⟨rfl, e4, (by decide : 0 + 0 ≤ _), (by decide : 0 + 0 ≤ _)⟩)
  dsimp only [Pt.U, Pt.locs, Pt.cells, Pt.slots] at X6 l6 y6 z6 st6 hQ6
  subst l6 y6 z6
  obtain ⟨rfl, Nq6, eq6⟩ := hQ6
  have N6 := Fr.app N2 Nq6
  have pre7 : own_Go p e below S0 (T6.setTop (mkF m 17 #[.val (.ref a1), .val (.int p2), .val (.int 0)] [(.int 3), (.int 0), (.int p2), (.ref vb)])) := by
    intro t kt
    refine pre5 t ?_
    refine st6.trans ?_
    show Steps p.tables e below (T6.setTop (mkF m 17 #[.val (.ref a1), .val (.int p2), .val (.int 0)] [(.int 3), (.int 0), (.int p2), (.ref vb)])) _
    exact kt
  obtain ⟨_, _, ⟨T8, L8, k8, n8⟩, -, X8, ⟨Lc8, hQ8, l8, y8, z8⟩, st8⟩ := Jvm.LawKit.callS X6 hx (y := own_m18) hown (mvT hZ (hw _ (own_w 101 rfl))) (mvT hZ (hw _ (own_w 102 rfl))) (mvT hZ (hw _ (own_w 74 rfl))) (mvT hZ (hw _ (own_w 103 rfl))) (by decide) (backOf (W := 0) (rmiof0 l Z a0 hw [] vb p2 k1 h0 n0 Z0 V1) hZ (hw _ (own_w 103 rfl)) (hw _ (own_w 74 rfl)) (by decide) (by decide)) (g := (mkF m 17 #[.val (.ref a1), .val (.int p2), .val (.int 0)] [(.int 3), (.int 0), (.int p2), (.ref vb)])) rfl (by rw [hml]; rfl) (argsL := [(.ref vb), (.int p2), (.int 0), (.int 3)]) (rest := []) (lenOf pd_17 rfl) rfl (by show 2 * 0 + _ ≤ _; exact Nat.le_of_eq rfl) (hb hby d20_17) (fun _ _ => ⟨rfl, eq6, (by decide : 0 + 0 ≤ _), (by decide : 0 + 0 ≤ _)⟩)
  dsimp only [Pt.U, Pt.locs, Pt.cells, Pt.slots] at X8 l8 y8 z8 st8 hQ8
  subst l8 y8 z8
  obtain ⟨rfl, Nq8, eq8⟩ := hQ8
  have N8 := Fr.app N6 Nq8
  have pre9 : own_Go p e below S0 (T8.setTop (mkF m 36 #[.val (.ref a1), .val (.int p2), .val (.int 0)] [(.int (own_iof0 p2))])) := by
    intro t kt
    refine pre7 t ?_
    refine st8 _ ?_
    show Steps p.tables e below (T8.setTop (mkF m 20 #[.val (.ref a1), .val (.int p2), .val (.int 0)] [(.int (own_iof0 p2))])) _
    refine XS.goto X8.here hx rfl (pc0 := 20) (pc' := 36) rfl (hb hby d20_20) (by decide) (by decide) ?_
    exact kt
  obtain ⟨fs, hr, hrun, hended, hW, hsame⟩ := X8.leave (v := some (.int (own_iof0 p2))) (fun h => by rw [Bd.returns] at h; cases h)
  refine ⟨_, _, fin _ (pre9 _ ?_), hrun, hended, _, _, rfl, ?_, ⟨_, rfl⟩, hW, hsame.mono (by decide) (by decide)⟩
  · exact retI X8 hx Bd.returns (hb hby d20_36) hr
  · show Qio2_0 Z a1 p2 wC vb k1 h0 n0 _ T8.heap _
    rw [eq8]
    exact ⟨rfl, N8, rfl⟩

theorem d19_0 : decode jdk_42_method_79_code 0 = .ok (.aload_n 0, 1) := by decide +kernel
theorem d19_1 : decode jdk_42_method_79_code 1 = .ok (.iload_n 1, 1) := by decide +kernel
theorem d19_2 : decode jdk_42_method_79_code 2 = .ok (.iconst 0, 1) := by decide +kernel
theorem d19_3 : decode jdk_42_method_79_code 3 = .ok (.invokevirtual 633, 3) := by decide +kernel
theorem d19_6 : decode jdk_42_method_79_code 6 = .ok (.ireturn, 1) := by decide +kernel
theorem pn_19 : plainName "java/lang/String" = true := by first | (simp [plainName, overriddenIn]; done) | decide +kernel
theorem ef_io1_0 (m : MethodId) (x0 : Addr) (x1 : Int32) : entryFrame m #[(.ref x0), (.int x1)] 2 = mkF m 0 #[.val (.ref x0), .val (.int x1)] [] := by first | (simp [entryFrame, mkF, argsToLocals, Value.category]; done) | rfl
def Qio1_0 (Z : State) (a1 : Addr) (p2 : Int32) (wC : Int32) (vb : Addr) (k1 : ClassId) (h0 : Heap) (n0 : Nat) (v : Option Value) (h : Heap) (L : List Loc) : Prop := v = (some (.int (own_iof0 p2))) ∧ Fr n0 L ∧ h = h0
set_option maxRecDepth 65536 in
set_option maxHeartbeats 40000000 in
theorem rmio1_0 (l : Launch) (Z : State) (a0 : Array Value) (hw : ∀ d ∈ tables_1, d.before a0 Z = true) (ws : List Jvm.Cond) (a1 : Addr) (p2 : Int32) (wC : Int32) (vb : Addr) (k1 : ClassId) (h0 : Heap) (n0 : Nat) (Z0 : n0 ≤ h0.size) (O0 : Old Z n0 h0) (qC : (own_SC Z wC)) (pE1 : Exa Z h0 a1 "java/lang/String") (FC : Fld Z h0 a1 "java/lang/String" "coder" "B" (.int 0)) (FV : Fld Z h0 a1 "java/lang/String" "value" "[B" (.ref vb)) (V1 : Arv Z h0 vb k1 .byte (3 : Int32) [(.int 46), (.int 95), (.int 45)] (.int 0)) :
    MetFree l own_m11 (head1 (Jvm.Cond.code own_m11 jdk_42_method_79_code 2 (some .int) :: ws) (own_r 3 0 0 46)) (fun a U => a = #[(.ref a1), (.int p2)] ∧ Z.Warmed39 U.vm ∧ U.heap = h0) (fun _ _ _ _ _ => True) (fun _ U o U' => ∃ v L, o = .returned v ∧ Qio1_0 Z a1 p2 wC vb k1 h0 n0 v U'.heap L ∧ FrameEnd U o U' L (own_r 3 0 0 46).cells (own_r 3 0 0 46).slots) := by
  refine MetFree.of_bodySF (plainFor_of_name pn_19) hisR ?_
  intro p e s m args below meth c s₁ Bd hml0 hP hK
  obtain ⟨rfl, hZ, hh⟩ := hP
  have hx := Bd.exec
  have hby := Bd.bytes
  have hml : c.maxLocals = 2 := hml0
  have hown0 := findClass_of_methodNamed Bd.named
  have hown : s.vm.findClass "java/lang/String" = some m.cls := hown0
  have hnm := (name_of_methodNamed Bd.named Bd.method).1
  have X0 : Stand p l e (own_r 3 0 0 46) s m #[(.ref a1), (.int p2)] below meth c s₁ [] 0 0 := Stand.of_body Bd
  have e0 : s₁.heap = h0 := by rw [← hh, Bd.state]; rfl
  have N0 := Fr.nil n0
  obtain ⟨S0, hS0⟩ : ∃ z, z = s₁.setTop (entryFrame m #[(.ref a1), (.int p2)] 2) := ⟨_, rfl⟩
  have pre0 : own_Go p e below S0 (s₁.setTop (mkF m 0 #[.val (.ref a1), .val (.int p2)] [])) := fun t k => by rw [hS0]; exact castTop (ef_io1_0 m a1 p2) k
  have fin : ∀ t, Steps p.tables e below S0 t → Steps p.tables e below (s₁.setTop (entryFrame m #[(.ref a1), (.int p2)] 2)) t := fun t k => by rw [hS0] at k; exact k
  have pre1 : own_Go p e below S0 (s₁.setTop (mkF m 3 #[.val (.ref a1), .val (.int p2)] [(.int 0), (.int p2), (.ref a1)])) := by
    intro t kt
    refine pre0 t ?_
    refine XS.aloadN X0.here hx rfl (hb hby d19_0) rfl rfl ?_
    refine XS.iloadN X0.here hx rfl (hb hby d19_1) rfl ?_
    refine XS.iconst X0.here hx rfl (hb hby d19_2) ?_
    exact kt
  obtain ⟨cq2, kq2, qa2, qb2, qc2⟩ := isOf hZ e0 pE1
  obtain ⟨_, _, ⟨T2, L2, k2, n2⟩, -, X2, ⟨Lc2, hQ2, l2, y2, z2⟩, st2⟩ := X0.virtualBack hx (y := own_m12) (z := own_m12) hown (mvT hZ (hw _ (own_w 95 rfl))) (mvT hZ (hw _ (own_w 96 rfl))) (notFace_of_selects (args := #[]) (mvT hZ (hw _ (own_w 98 rfl)))) (mvT hZ (hw _ (own_w 98 rfl))) (mvT hZ (hw _ (own_w 97 rfl))) (by decide) (backOf (W := 0) (rmio2_0 l Z a0 hw [] a1 p2 wC vb k1 h0 n0 Z0 O0 qC pE1 FC FV V1) hZ (hw _ (own_w 99 rfl)) (hw _ (own_w 11 rfl)) (by decide) (by decide)) qa2 qc2 (g := (mkF m 3 #[.val (.ref a1), .val (.int p2)] [(.int 0), (.int p2), (.ref a1)])) rfl (by rw [hml]; rfl) (Steps.refl _) (argsL := [(.int p2), (.int 0)]) (rest := []) (lenOf pd_16 rfl) rfl (by show 2 * 0 + _ ≤ _; exact Nat.le_of_eq rfl) (hb hby d19_3) (fun _ _ => ⟨rfl, e0, (by decide : 0 + 0 ≤ _), (by decide : 0 + 0 ≤ _)⟩)
  dsimp only [Pt.U, Pt.locs, Pt.cells, Pt.slots] at X2 l2 y2 z2 st2 hQ2
  subst l2 y2 z2
  obtain ⟨rfl, Nq2, eq2⟩ := hQ2
  have N2 := Fr.app N0 Nq2
  have pre3 : own_Go p e below S0 (T2.setTop (mkF m 6 #[.val (.ref a1), .val (.int p2)] [(.int (own_iof0 p2))])) := by
    intro t kt
    refine pre1 t ?_
    refine st2.trans ?_
    show Steps p.tables e below (T2.setTop (mkF m 6 #[.val (.ref a1), .val (.int p2)] [(.int (own_iof0 p2))])) _
    exact kt
  obtain ⟨fs, hr, hrun, hended, hW, hsame⟩ := X2.leave (v := some (.int (own_iof0 p2))) (fun h => by rw [Bd.returns] at h; cases h)
  refine ⟨_, _, fin _ (pre3 _ ?_), hrun, hended, _, _, rfl, ?_, ⟨_, rfl⟩, hW, hsame.mono (by decide) (by decide)⟩
  · exact retI X2 hx Bd.returns (hb hby d19_6) hr
  · show Qio1_0 Z a1 p2 wC vb k1 h0 n0 _ T2.heap _
    rw [eq2]
    exact ⟨rfl, N2, rfl⟩

theorem d18_0 : decode prog_8_method_6_code 0 = .ok (.iload_n 1, 1) := by decide +kernel
theorem d18_1 : decode prog_8_method_6_code 1 = .ok (.bipush 97, 2) := by decide +kernel
theorem d18_3 : decode prog_8_method_6_code 3 = .ok (.if_icmp .lt 9, 3) := by decide +kernel
theorem d18_6 : decode prog_8_method_6_code 6 = .ok (.iload_n 1, 1) := by decide +kernel
theorem d18_7 : decode prog_8_method_6_code 7 = .ok (.bipush 122, 2) := by decide +kernel
theorem d18_9 : decode prog_8_method_6_code 9 = .ok (.if_icmp .le 38, 3) := by decide +kernel
theorem d18_12 : decode prog_8_method_6_code 12 = .ok (.iload_n 1, 1) := by decide +kernel
theorem d18_13 : decode prog_8_method_6_code 13 = .ok (.bipush 65, 2) := by decide +kernel
theorem d18_15 : decode prog_8_method_6_code 15 = .ok (.if_icmp .lt 9, 3) := by decide +kernel
theorem d18_18 : decode prog_8_method_6_code 18 = .ok (.iload_n 1, 1) := by decide +kernel
theorem d18_19 : decode prog_8_method_6_code 19 = .ok (.bipush 90, 2) := by decide +kernel
theorem d18_21 : decode prog_8_method_6_code 21 = .ok (.if_icmp .le 26, 3) := by decide +kernel
theorem d18_24 : decode prog_8_method_6_code 24 = .ok (.iload_n 1, 1) := by decide +kernel
theorem d18_25 : decode prog_8_method_6_code 25 = .ok (.bipush 48, 2) := by decide +kernel
theorem d18_27 : decode prog_8_method_6_code 27 = .ok (.if_icmp .lt 9, 3) := by decide +kernel
theorem d18_30 : decode prog_8_method_6_code 30 = .ok (.iload_n 1, 1) := by decide +kernel
theorem d18_31 : decode prog_8_method_6_code 31 = .ok (.bipush 57, 2) := by decide +kernel
theorem d18_33 : decode prog_8_method_6_code 33 = .ok (.if_icmp .le 14, 3) := by decide +kernel
theorem d18_36 : decode prog_8_method_6_code 36 = .ok (.aload_n 0, 1) := by decide +kernel
theorem d18_37 : decode prog_8_method_6_code 37 = .ok (.getfield 32, 3) := by decide +kernel
theorem d18_40 : decode prog_8_method_6_code 40 = .ok (.iload_n 1, 1) := by decide +kernel
theorem d18_41 : decode prog_8_method_6_code 41 = .ok (.invokevirtual 77, 3) := by decide +kernel
theorem d18_44 : decode prog_8_method_6_code 44 = .ok (.ifCond .lt 7, 3) := by decide +kernel
theorem d18_47 : decode prog_8_method_6_code 47 = .ok (.iconst 1, 1) := by decide +kernel
theorem d18_48 : decode prog_8_method_6_code 48 = .ok (.goto 4, 3) := by decide +kernel
theorem d18_51 : decode prog_8_method_6_code 51 = .ok (.iconst 0, 1) := by decide +kernel
theorem d18_52 : decode prog_8_method_6_code 52 = .ok (.ireturn, 1) := by decide +kernel
theorem pn_18 : plainName "com/example/backplane/backplane/IdSyntax" = true := by first | (simp [plainName, overriddenIn]; done) | decide +kernel
theorem ef_idc0 (m : MethodId) (x0 : Addr) (x1 : Int32) : entryFrame m #[(.ref x0), (.int x1)] 2 = mkF m 0 #[.val (.ref x0), .val (.int x1)] [] := by first | (simp [entryFrame, mkF, argsToLocals, Value.category]; done) | rfl
def own_id0 (p2 : Int32) : Int32 := (if (¬ p2 < (97 : Int32) ∧ ¬ (122 : Int32) < p2) then (1 : Int32) else (if (¬ p2 < (65 : Int32) ∧ ¬ (90 : Int32) < p2) then (1 : Int32) else (if (¬ p2 < (48 : Int32) ∧ ¬ (57 : Int32) < p2) then (1 : Int32) else (if (own_iof0 p2) < (0 : Int32) then (0 : Int32) else (1 : Int32)))))
def Qidc0 (Z : State) (a1 : Addr) (p2 : Int32) (wC : Int32) (pa : Addr) (vb : Addr) (k1 : ClassId) (h0 : Heap) (n0 : Nat) (v : Option Value) (h : Heap) (L : List Loc) : Prop := v = (some (.int (own_id0 p2))) ∧ Fr n0 L ∧ h = h0
set_option maxRecDepth 65536 in
set_option maxHeartbeats 40000000 in
theorem rmidc0 (l : Launch) (Z : State) (a0 : Array Value) (hw : ∀ d ∈ tables_1, d.before a0 Z = true) (ws : List Jvm.Cond) (a1 : Addr) (p2 : Int32) (wC : Int32) (pa : Addr) (vb : Addr) (k1 : ClassId) (h0 : Heap) (n0 : Nat) (Z0 : n0 ≤ h0.size) (O0 : Old Z n0 h0) (qC : (own_SC Z wC)) (pE1 : Exa Z h0 a1 "com/example/backplane/backplane/IdSyntax") (pF1 : Fld Z h0 a1 "com/example/backplane/backplane/IdSyntax" "punctuation" "Ljava/lang/String;" (.ref pa)) (pE2 : Exa Z h0 pa "java/lang/String") (FC : Fld Z h0 pa "java/lang/String" "coder" "B" (.int 0)) (FV : Fld Z h0 pa "java/lang/String" "value" "[B" (.ref vb)) (V1 : Arv Z h0 vb k1 .byte (3 : Int32) [(.int 46), (.int 95), (.int 45)] (.int 0)) :
    MetFree l own_m0 (head1 (Jvm.Cond.code own_m0 prog_8_method_6_code 2 (some .boolean) :: ws) (own_r 4 0 0 59)) (fun a U => a = #[(.ref a1), (.int p2)] ∧ Z.Warmed39 U.vm ∧ U.heap = h0) (fun _ _ _ _ _ => True) (fun _ U o U' => ∃ v L, o = .returned v ∧ Qidc0 Z a1 p2 wC pa vb k1 h0 n0 v U'.heap L ∧ FrameEnd U o U' L (own_r 4 0 0 59).cells (own_r 4 0 0 59).slots) := by
  refine MetFree.of_bodySF (plainFor_of_name pn_18) hisR ?_
  intro p e s m args below meth c s₁ Bd hml0 hP hK
  obtain ⟨rfl, hZ, hh⟩ := hP
  have hx := Bd.exec
  have hby := Bd.bytes
  have hml : c.maxLocals = 2 := hml0
  have hown0 := findClass_of_methodNamed Bd.named
  have hown : s.vm.findClass "com/example/backplane/backplane/IdSyntax" = some m.cls := hown0
  have hnm := (name_of_methodNamed Bd.named Bd.method).1
  have X0 : Stand p l e (own_r 4 0 0 59) s m #[(.ref a1), (.int p2)] below meth c s₁ [] 0 0 := Stand.of_body Bd
  have e0 : s₁.heap = h0 := by rw [← hh, Bd.state]; rfl
  have N0 := Fr.nil n0
  obtain ⟨S0, hS0⟩ : ∃ z, z = s₁.setTop (entryFrame m #[(.ref a1), (.int p2)] 2) := ⟨_, rfl⟩
  have pre0 : own_Go p e below S0 (s₁.setTop (mkF m 0 #[.val (.ref a1), .val (.int p2)] [])) := fun t k => by rw [hS0]; exact castTop (ef_idc0 m a1 p2) k
  have fin : ∀ t, Steps p.tables e below S0 t → Steps p.tables e below (s₁.setTop (entryFrame m #[(.ref a1), (.int p2)] 2)) t := fun t k => by rw [hS0] at k; exact k
  by_cases hA1 : (¬ p2 < (97 : Int32) ∧ ¬ (122 : Int32) < p2)
  · have pre2 : own_Go p e below S0 (s₁.setTop (mkF m 52 #[.val (.ref a1), .val (.int p2)] [(.int 1)])) := by
      intro t kt
      refine pre0 t ?_
      refine XS.iloadN X0.here hx rfl (hb hby d18_0) rfl ?_
      refine XS.bipush X0.here hx rfl (hb hby d18_1) ?_
      refine XS.icmpNo X0.here hx rfl (hb hby d18_3) rfl (flt hA1.1).1 ?_
      refine XS.iloadN X0.here hx rfl (hb hby d18_6) rfl ?_
      refine XS.bipush X0.here hx rfl (hb hby d18_7) ?_
      refine XS.icmpYes X0.here hx rfl (pc0 := 9) (pc' := 47) rfl (hb hby d18_9) rfl (flt hA1.2).2.2.2 (by decide) (by decide) ?_
      show Steps p.tables e below (s₁.setTop (mkF m 47 #[.val (.ref a1), .val (.int p2)] [])) _
      refine XS.iconst X0.here hx rfl (hb hby d18_47) ?_
      refine XS.goto X0.here hx rfl (pc0 := 48) (pc' := 52) rfl (hb hby d18_48) (by decide) (by decide) ?_
      exact kt
    obtain ⟨fs, hr, hrun, hended, hW, hsame⟩ := X0.leave (v := some (.int 1)) (fun h => by rw [Bd.returns] at h; cases h)
    refine ⟨_, _, fin _ (pre2 _ ?_), hrun, hended, _, _, rfl, ?_, ⟨_, rfl⟩, hW, hsame.mono (by decide) (by decide)⟩
    · exact retN X0 hx (t := .boolean) Bd.returns (by simp) (hb hby d18_52) hr
    · show Qidc0 Z a1 p2 wC pa vb k1 h0 n0 _ s₁.heap _
      rw [e0]
      exact ⟨(by show some _ = some _; rw [own_id0, if_pos hA1]), N0, rfl⟩
  · have pre3 : own_Go p e below S0 (s₁.setTop (mkF m 12 #[.val (.ref a1), .val (.int p2)] [])) := by
      have pre5 : own_Go p e below S0 (s₁.setTop (mkF m 3 #[.val (.ref a1), .val (.int p2)] [(.int 97), (.int p2)])) := by
        intro t kt
        refine pre0 t ?_
        refine XS.iloadN X0.here hx rfl (hb hby d18_0) rfl ?_
        refine XS.bipush X0.here hx rfl (hb hby d18_1) ?_
        exact kt
      by_cases hc4 : p2 < (97 : Int32)
      · have pre6 : own_Go p e below S0 (s₁.setTop (mkF m 12 #[.val (.ref a1), .val (.int p2)] [])) := by
          intro t kt
          refine pre5 t ?_
          refine XS.icmpYes X0.here hx rfl (pc0 := 3) (pc' := 12) rfl (hb hby d18_3) rfl (tlt hc4).1 (by decide) (by decide) ?_
          exact kt
        exact pre6
      · have pre7 : own_Go p e below S0 (s₁.setTop (mkF m 12 #[.val (.ref a1), .val (.int p2)] [])) := by
          intro t kt
          refine pre5 t ?_
          refine XS.icmpNo X0.here hx rfl (hb hby d18_3) rfl (flt hc4).1 ?_
          refine XS.iloadN X0.here hx rfl (hb hby d18_6) rfl ?_
          refine XS.bipush X0.here hx rfl (hb hby d18_7) ?_
          refine XS.icmpNo X0.here hx rfl (hb hby d18_9) rfl (tlt (Decidable.byContradiction fun q => hA1 ⟨hc4, q⟩)).2.2.2 ?_
          exact kt
        exact pre7
    by_cases hA8 : (¬ p2 < (65 : Int32) ∧ ¬ (90 : Int32) < p2)
    · have pre9 : own_Go p e below S0 (s₁.setTop (mkF m 52 #[.val (.ref a1), .val (.int p2)] [(.int 1)])) := by
        intro t kt
        refine pre3 t ?_
        refine XS.iloadN X0.here hx rfl (hb hby d18_12) rfl ?_
        refine XS.bipush X0.here hx rfl (hb hby d18_13) ?_
        refine XS.icmpNo X0.here hx rfl (hb hby d18_15) rfl (flt hA8.1).1 ?_
        refine XS.iloadN X0.here hx rfl (hb hby d18_18) rfl ?_
        refine XS.bipush X0.here hx rfl (hb hby d18_19) ?_
        refine XS.icmpYes X0.here hx rfl (pc0 := 21) (pc' := 47) rfl (hb hby d18_21) rfl (flt hA8.2).2.2.2 (by decide) (by decide) ?_
        show Steps p.tables e below (s₁.setTop (mkF m 47 #[.val (.ref a1), .val (.int p2)] [])) _
        refine XS.iconst X0.here hx rfl (hb hby d18_47) ?_
        refine XS.goto X0.here hx rfl (pc0 := 48) (pc' := 52) rfl (hb hby d18_48) (by decide) (by decide) ?_
        exact kt
      obtain ⟨fs, hr, hrun, hended, hW, hsame⟩ := X0.leave (v := some (.int 1)) (fun h => by rw [Bd.returns] at h; cases h)
      refine ⟨_, _, fin _ (pre9 _ ?_), hrun, hended, _, _, rfl, ?_, ⟨_, rfl⟩, hW, hsame.mono (by decide) (by decide)⟩
      · exact retN X0 hx (t := .boolean) Bd.returns (by simp) (hb hby d18_52) hr
      · show Qidc0 Z a1 p2 wC pa vb k1 h0 n0 _ s₁.heap _
        rw [e0]
        exact ⟨(by show some _ = some _; rw [own_id0, if_neg hA1, if_pos hA8]), N0, rfl⟩
    · have pre10 : own_Go p e below S0 (s₁.setTop (mkF m 24 #[.val (.ref a1), .val (.int p2)] [])) := by
        have pre12 : own_Go p e below S0 (s₁.setTop (mkF m 15 #[.val (.ref a1), .val (.int p2)] [(.int 65), (.int p2)])) := by
          intro t kt
          refine pre3 t ?_
          refine XS.iloadN X0.here hx rfl (hb hby d18_12) rfl ?_
          refine XS.bipush X0.here hx rfl (hb hby d18_13) ?_
          exact kt
        by_cases hc11 : p2 < (65 : Int32)
        · have pre13 : own_Go p e below S0 (s₁.setTop (mkF m 24 #[.val (.ref a1), .val (.int p2)] [])) := by
            intro t kt
            refine pre12 t ?_
            refine XS.icmpYes X0.here hx rfl (pc0 := 15) (pc' := 24) rfl (hb hby d18_15) rfl (tlt hc11).1 (by decide) (by decide) ?_
            exact kt
          exact pre13
        · have pre14 : own_Go p e below S0 (s₁.setTop (mkF m 24 #[.val (.ref a1), .val (.int p2)] [])) := by
            intro t kt
            refine pre12 t ?_
            refine XS.icmpNo X0.here hx rfl (hb hby d18_15) rfl (flt hc11).1 ?_
            refine XS.iloadN X0.here hx rfl (hb hby d18_18) rfl ?_
            refine XS.bipush X0.here hx rfl (hb hby d18_19) ?_
            refine XS.icmpNo X0.here hx rfl (hb hby d18_21) rfl (tlt (Decidable.byContradiction fun q => hA8 ⟨hc11, q⟩)).2.2.2 ?_
            exact kt
          exact pre14
      by_cases hA15 : (¬ p2 < (48 : Int32) ∧ ¬ (57 : Int32) < p2)
      · have pre16 : own_Go p e below S0 (s₁.setTop (mkF m 52 #[.val (.ref a1), .val (.int p2)] [(.int 1)])) := by
          intro t kt
          refine pre10 t ?_
          refine XS.iloadN X0.here hx rfl (hb hby d18_24) rfl ?_
          refine XS.bipush X0.here hx rfl (hb hby d18_25) ?_
          refine XS.icmpNo X0.here hx rfl (hb hby d18_27) rfl (flt hA15.1).1 ?_
          refine XS.iloadN X0.here hx rfl (hb hby d18_30) rfl ?_
          refine XS.bipush X0.here hx rfl (hb hby d18_31) ?_
          refine XS.icmpYes X0.here hx rfl (pc0 := 33) (pc' := 47) rfl (hb hby d18_33) rfl (flt hA15.2).2.2.2 (by decide) (by decide) ?_
          show Steps p.tables e below (s₁.setTop (mkF m 47 #[.val (.ref a1), .val (.int p2)] [])) _
          refine XS.iconst X0.here hx rfl (hb hby d18_47) ?_
          refine XS.goto X0.here hx rfl (pc0 := 48) (pc' := 52) rfl (hb hby d18_48) (by decide) (by decide) ?_
          exact kt
        obtain ⟨fs, hr, hrun, hended, hW, hsame⟩ := X0.leave (v := some (.int 1)) (fun h => by rw [Bd.returns] at h; cases h)
        refine ⟨_, _, fin _ (pre16 _ ?_), hrun, hended, _, _, rfl, ?_, ⟨_, rfl⟩, hW, hsame.mono (by decide) (by decide)⟩
        · exact retN X0 hx (t := .boolean) Bd.returns (by simp) (hb hby d18_52) hr
        · show Qidc0 Z a1 p2 wC pa vb k1 h0 n0 _ s₁.heap _
          rw [e0]
          exact ⟨(by show some _ = some _; rw [own_id0, if_neg hA1, if_neg hA8, if_pos hA15]), N0, rfl⟩
      · have pre17 : own_Go p e below S0 (s₁.setTop (mkF m 36 #[.val (.ref a1), .val (.int p2)] [])) := by
          have pre19 : own_Go p e below S0 (s₁.setTop (mkF m 27 #[.val (.ref a1), .val (.int p2)] [(.int 48), (.int p2)])) := by
            intro t kt
            refine pre10 t ?_
            refine XS.iloadN X0.here hx rfl (hb hby d18_24) rfl ?_
            refine XS.bipush X0.here hx rfl (hb hby d18_25) ?_
            exact kt
          by_cases hc18 : p2 < (48 : Int32)
          · have pre20 : own_Go p e below S0 (s₁.setTop (mkF m 36 #[.val (.ref a1), .val (.int p2)] [])) := by
              intro t kt
              refine pre19 t ?_
              refine XS.icmpYes X0.here hx rfl (pc0 := 27) (pc' := 36) rfl (hb hby d18_27) rfl (tlt hc18).1 (by decide) (by decide) ?_
              exact kt
            exact pre20
          · have pre21 : own_Go p e below S0 (s₁.setTop (mkF m 36 #[.val (.ref a1), .val (.int p2)] [])) := by
              intro t kt
              refine pre19 t ?_
              refine XS.icmpNo X0.here hx rfl (hb hby d18_27) rfl (flt hc18).1 ?_
              refine XS.iloadN X0.here hx rfl (hb hby d18_30) rfl ?_
              refine XS.bipush X0.here hx rfl (hb hby d18_31) ?_
              refine XS.icmpNo X0.here hx rfl (hb hby d18_33) rfl (tlt (Decidable.byContradiction fun q => hA15 ⟨hc18, q⟩)).2.2.2 ?_
              exact kt
            exact pre21
        have pre22 : own_Go p e below S0 (s₁.setTop (mkF m 37 #[.val (.ref a1), .val (.int p2)] [(.ref a1)])) := by
          intro t kt
          refine pre17 t ?_
          refine XS.aloadN X0.here hx rfl (hb hby d18_36) rfl rfl ?_
          exact kt
        obtain ⟨T23, X23, e23, st23⟩ := getF X0 hx hZ hown (host := "") (Or.inl (hw _ (own_w 88 rfl))) Via.refl e0 pF1 (g := (mkF m 37 #[.val (.ref a1), .val (.int p2)] [(.ref a1)])) rfl rfl (hb hby d18_37)
        have pre24 : own_Go p e below S0 (T23.setTop (mkF m 41 #[.val (.ref a1), .val (.int p2)] [(.int p2), (.ref pa)])) := by
          intro t kt
          refine pre22 t ?_
          refine st23 _ ?_
          refine XS.iloadN X23.here hx rfl (hb hby d18_40) rfl ?_
          exact kt
        obtain ⟨cq25, kq25, qa25, qb25, qc25⟩ := isOf hZ e23 pE2
        obtain ⟨_, _, ⟨T25, L25, k25, n25⟩, -, X25, ⟨Lc25, hQ25, l25, y25, z25⟩, st25⟩ := X23.virtualBack hx (y := own_m11) (z := own_m11) hown (mvT hZ (hw _ (own_w 90 rfl))) (mvT hZ (hw _ (own_w 91 rfl))) (notFace_of_selects (args := #[]) (mvT hZ (hw _ (own_w 93 rfl)))) (mvT hZ (hw _ (own_w 93 rfl))) (mvT hZ (hw _ (own_w 92 rfl))) (by decide) (backOf (W := 0) (rmio1_0 l Z a0 hw [] pa p2 wC vb k1 h0 n0 Z0 O0 qC pE2 FC FV V1) hZ (hw _ (own_w 94 rfl)) (hw _ (own_w 11 rfl)) (by decide) (by decide)) qa25 qc25 (g := (mkF m 41 #[.val (.ref a1), .val (.int p2)] [(.int p2), (.ref pa)])) rfl (by rw [hml]; rfl) (Steps.refl _) (argsL := [(.int p2)]) (rest := []) (lenOf pd_1 rfl) rfl (by show 2 * 0 + _ ≤ _; exact Nat.le_of_eq rfl) (hb hby d18_41) (fun _ _ => ⟨rfl, e23, (by decide : 0 + 0 ≤ _), (by decide : 0 + 0 ≤ _)⟩)
        dsimp only [Pt.U, Pt.locs, Pt.cells, Pt.slots] at X25 l25 y25 z25 st25 hQ25
        subst l25 y25 z25
        obtain ⟨rfl, Nq25, eq25⟩ := hQ25
        have N25 := Fr.app N0 Nq25
        have pre27 : own_Go p e below S0 (T25.setTop (mkF m 44 #[.val (.ref a1), .val (.int p2)] [(.int (own_iof0 p2))])) := by
          intro t kt
          refine pre24 t ?_
          refine st25.trans ?_
          show Steps p.tables e below (T25.setTop (mkF m 44 #[.val (.ref a1), .val (.int p2)] [(.int (own_iof0 p2))])) _
          exact kt
        by_cases hc26 : (own_iof0 p2) < (0 : Int32)
        · have pre28 : own_Go p e below S0 (T25.setTop (mkF m 52 #[.val (.ref a1), .val (.int p2)] [(.int 0)])) := by
            intro t kt
            refine pre27 t ?_
            refine XS.ifYes X25.here hx rfl (pc0 := 44) (pc' := 51) rfl (hb hby d18_44) rfl ((if0 _ _).trans (tlt hc26).1) (by decide) (by decide) ?_
            refine XS.iconst X25.here hx rfl (hb hby d18_51) ?_
            exact kt
          obtain ⟨fs, hr, hrun, hended, hW, hsame⟩ := X25.leave (v := some (.int 0)) (fun h => by rw [Bd.returns] at h; cases h)
          refine ⟨_, _, fin _ (pre28 _ ?_), hrun, hended, _, _, rfl, ?_, ⟨_, rfl⟩, hW, hsame.mono (by decide) (by decide)⟩
          · exact retN X25 hx (t := .boolean) Bd.returns (by simp) (hb hby d18_52) hr
          · show Qidc0 Z a1 p2 wC pa vb k1 h0 n0 _ T25.heap _
            rw [eq25]
            exact ⟨(by show some _ = some _; rw [own_id0, if_neg hA1, if_neg hA8, if_neg hA15, if_pos hc26]), N25, rfl⟩
        · have pre29 : own_Go p e below S0 (T25.setTop (mkF m 52 #[.val (.ref a1), .val (.int p2)] [(.int 1)])) := by
            intro t kt
            refine pre27 t ?_
            refine XS.ifNo X25.here hx rfl (hb hby d18_44) rfl ((if0 _ _).trans (flt hc26).1) ?_
            refine XS.iconst X25.here hx rfl (hb hby d18_47) ?_
            refine XS.goto X25.here hx rfl (pc0 := 48) (pc' := 52) rfl (hb hby d18_48) (by decide) (by decide) ?_
            exact kt
          obtain ⟨fs, hr, hrun, hended, hW, hsame⟩ := X25.leave (v := some (.int 1)) (fun h => by rw [Bd.returns] at h; cases h)
          refine ⟨_, _, fin _ (pre29 _ ?_), hrun, hended, _, _, rfl, ?_, ⟨_, rfl⟩, hW, hsame.mono (by decide) (by decide)⟩
          · exact retN X25 hx (t := .boolean) Bd.returns (by simp) (hb hby d18_52) hr
          · show Qidc0 Z a1 p2 wC pa vb k1 h0 n0 _ T25.heap _
            rw [eq25]
            exact ⟨(by show some _ = some _; rw [own_id0, if_neg hA1, if_neg hA8, if_neg hA15, if_neg hc26]), N25, rfl⟩

theorem own_iofV0 (c : Int32) : own_iof0 c < (0 : Int32) ↔ ¬ (c = 46 ∨ c = 95 ∨ c = 45) := by
  have b := c_i2b c
  have f : ∀ a b : Int32, a = b ↔ a.toInt = b.toInt := fun a b => Int32.toInt_inj.symm
  have g : ∀ a b : Int32, a < b ↔ a.toInt < b.toInt := fun a b => Int32.lt_iff_toInt_lt
  have e0 : own_can c = 0 ↔ ¬ (0 ≤ c.toInt ∧ c.toInt ≤ 255) := by
    have z0 : (0 : Int32).toInt = 0 := rfl
    have z1 : (255 : Int32).toInt = 255 := rfl
    unfold own_can
    split
    · rename_i h; rw [g, z0] at h; simp; omega
    · rename_i h; rw [g, z0] at h
      split
      · rename_i h2; rw [g, z1] at h2; simp; omega
      · rename_i h2; rw [g, z1] at h2; simp; omega
  unfold own_iof0
  split
  · rename_i h
    rw [e0] at h
    simp only [f, show (46 : Int32).toInt = 46 from rfl, show (95 : Int32).toInt = 95 from rfl, show (45 : Int32).toInt = 45 from rfl]
    constructor
    · intro _; omega
    · intro _; decide
  · rename_i h
    rw [e0] at h
    unfold own_ioc0
    simp only [f, show (46 : Int32).toInt = 46 from rfl, show (95 : Int32).toInt = 95 from rfl, show (45 : Int32).toInt = 45 from rfl]
    repeat' split
    all_goals (constructor <;> intro h9)
    all_goals first | omega | (exact absurd h9 (by decide)) | decide

theorem own_idE0 (c : Int32) : own_al 0 c = own_id0 c := by
  have f : ∀ a b : Int32, a = b ↔ a.toInt = b.toInt := fun a b => Int32.toInt_inj.symm
  have g : ∀ a b : Int32, a < b ↔ a.toInt < b.toInt := fun a b => Int32.lt_iff_toInt_lt
  unfold own_al own_id0
  simp only [own_iofV0]
  simp only [f, g, show (0 : Int32).toInt = 0 from rfl, show (1 : Int32).toInt = 1 from rfl, show (2 : Int32).toInt = 2 from rfl, show (45 : Int32).toInt = 45 from rfl, show (46 : Int32).toInt = 46 from rfl, show (48 : Int32).toInt = 48 from rfl, show (57 : Int32).toInt = 57 from rfl, show (58 : Int32).toInt = 58 from rfl, show (65 : Int32).toInt = 65 from rfl, show (90 : Int32).toInt = 90 from rfl, show (95 : Int32).toInt = 95 from rfl, show (97 : Int32).toInt = 97 from rfl, show (122 : Int32).toInt = 122 from rfl]
  repeat' split
  all_goals first | rfl | omega | (exact absurd trivial ‹_›) | simp_all

theorem ef_ioc1 (m : MethodId) (x0 : Addr) (x1 : Int32) : entryFrame m #[(.ref x0), (.int x1), (.int 0), (.int 4)] 6 = mkF m 0 #[.val (.ref x0), .val (.int x1), .val (.int 0), .val (.int 4), .unset, .unset] [] := by first | (simp [entryFrame, mkF, argsToLocals, Value.category]; done) | rfl
def own_ioc1 (p2 : Int32) : Int32 := (if (46 : Int32) = (p2.toInt8.toInt32) then (0 : Int32) else (if (95 : Int32) = (p2.toInt8.toInt32) then (1 : Int32) else (if (45 : Int32) = (p2.toInt8.toInt32) then (2 : Int32) else (if (58 : Int32) = (p2.toInt8.toInt32) then (3 : Int32) else (-1 : Int32)))))
def Qioc1 (Z : State) (a1 : Addr) (p2 : Int32) (k1 : ClassId) (h0 : Heap) (n0 : Nat) (v : Option Value) (h : Heap) (L : List Loc) : Prop := v = (some (.int (own_ioc1 p2))) ∧ Fr n0 L ∧ h = h0
set_option maxRecDepth 65536 in
set_option maxHeartbeats 40000000 in
theorem rmioc1 (l : Launch) (Z : State) (a0 : Array Value) (hw : ∀ d ∈ tables_1, d.before a0 Z = true) (ws : List Jvm.Cond) (a1 : Addr) (p2 : Int32) (k1 : ClassId) (h0 : Heap) (n0 : Nat) (Z0 : n0 ≤ h0.size) (V1 : Arv Z h0 a1 k1 .byte (4 : Int32) [(.int 46), (.int 95), (.int 45), (.int 58)] (.int 0)) :
    MetFree l own_m19 (head1 (Jvm.Cond.code own_m19 jdk_43_method_23_code 6 (some .int) :: ws) (own_r 0 0 0 0)) (fun a U => a = #[(.ref a1), (.int p2), (.int 0), (.int 4)] ∧ Z.Warmed39 U.vm ∧ U.heap = h0) (fun _ _ _ _ _ => True) (fun _ U o U' => ∃ v L, o = .returned v ∧ Qioc1 Z a1 p2 k1 h0 n0 v U'.heap L ∧ FrameEnd U o U' L (own_r 0 0 0 0).cells (own_r 0 0 0 0).slots) := by
  refine MetFree.of_bodySF (plainFor_of_name pn_25) hisR ?_
  intro p e s m args below meth c s₁ Bd hml0 hP hK
  obtain ⟨rfl, hZ, hh⟩ := hP
  have hx := Bd.exec
  have hby := Bd.bytes
  have hml : c.maxLocals = 6 := hml0
  have hown0 := findClass_of_methodNamed Bd.named
  have hown : s.vm.findClass "java/lang/StringLatin1" = some m.cls := hown0
  have hnm := (name_of_methodNamed Bd.named Bd.method).1
  have X0 : Stand p l e (own_r 0 0 0 0) s m #[(.ref a1), (.int p2), (.int 0), (.int 4)] below meth c s₁ [] 0 0 := Stand.of_body Bd
  have e0 : s₁.heap = h0 := by rw [← hh, Bd.state]; rfl
  have N0 := Fr.nil n0
  obtain ⟨S0, hS0⟩ : ∃ z, z = s₁.setTop (entryFrame m #[(.ref a1), (.int p2), (.int 0), (.int 4)] 6) := ⟨_, rfl⟩
  have pre0 : own_Go p e below S0 (s₁.setTop (mkF m 0 #[.val (.ref a1), .val (.int p2), .val (.int 0), .val (.int 4), .unset, .unset] [])) := fun t k => by rw [hS0]; exact castTop (ef_ioc1 m a1 p2) k
  have fin : ∀ t, Steps p.tables e below S0 t → Steps p.tables e below (s₁.setTop (entryFrame m #[(.ref a1), (.int p2), (.int 0), (.int 4)] 6)) t := fun t k => by rw [hS0] at k; exact k
  have pre1 : own_Go p e below S0 (s₁.setTop (mkF m 16 #[.val (.ref a1), .val (.int p2), .val (.int 0), .val (.int 4), .val (.int (p2.toInt8.toInt32)), .val (.int 0)] [(.int 0), (.ref a1)])) := by
    intro t kt
    refine pre0 t ?_
    refine XS.iloadN X0.here hx rfl (hb hby d25_0) rfl ?_
    refine XS.i2b X0.here hx rfl (hb hby d25_1) rfl ?_
    refine XS.istore X0.here hx rfl (hb hby d25_2) rfl (l' := #[.val (.ref a1), .val (.int p2), .val (.int 0), .val (.int 4), .val (.int (p2.toInt8.toInt32)), .unset]) rfl ?_
    refine XS.iloadN X0.here hx rfl (hb hby d25_4) rfl ?_
    refine XS.istore X0.here hx rfl (hb hby d25_5) rfl (l' := #[.val (.ref a1), .val (.int p2), .val (.int 0), .val (.int 4), .val (.int (p2.toInt8.toInt32)), .val (.int 0)]) rfl ?_
    refine XS.iload X0.here hx rfl (hb hby d25_7) rfl ?_
    show Steps p.tables e below (s₁.setTop (mkF m 9 #[.val (.ref a1), .val (.int p2), .val (.int 0), .val (.int 4), .val (.int (p2.toInt8.toInt32)), .val (.int 0)] [(.int 0)])) _
    refine XS.iloadN X0.here hx rfl (hb hby d25_9) rfl ?_
    refine XS.icmpNo X0.here hx rfl (hb hby d25_10) rfl (tlt (by decide : (0 : Int32) < (4 : Int32))).2.1 ?_
    refine XS.aloadN X0.here hx rfl (hb hby d25_13) rfl rfl ?_
    refine XS.iload X0.here hx rfl (hb hby d25_14) rfl ?_
    exact kt
  obtain ⟨cl2, Ar2, -, Sz2, -, Hs2, -⟩ := id V1
  have hin2 : ¬ ((0 : Int32) < 0 ∨ cl2.slots.size ≤ ((0 : Int32)).toNatClampNeg) := inb_of Sz2 ⟨by decide, by decide⟩
  have pre4 : own_Go p e below S0 (s₁.setTop (mkF m 19 #[.val (.ref a1), .val (.int p2), .val (.int 0), .val (.int 4), .val (.int (p2.toInt8.toInt32)), .val (.int 0)] [(.int (p2.toInt8.toInt32)), (.int 46)])) := by
    intro t kt
    refine pre1 t ?_
    refine X0.baloadBytes hx (j := (0 : Int32)) (v := (.int 46)) (by rw [e0]; exact Ar2.1) (State.isArrayOf_alike hZ.alike Ar2.2.1) Ar2.2.2 hin2 (Hs2.at hin2 rfl) (g := (mkF m 16 #[.val (.ref a1), .val (.int p2), .val (.int 0), .val (.int 4), .val (.int (p2.toInt8.toInt32)), .val (.int 0)] [(.int 0), (.ref a1)])) rfl rfl (hb hby d25_16) _ ?_
    refine XS.iload X0.here hx rfl (hb hby d25_17) rfl ?_
    exact kt
  by_cases hc3 : (46 : Int32) = (p2.toInt8.toInt32)
  · have pre5 : own_Go p e below S0 (s₁.setTop (mkF m 24 #[.val (.ref a1), .val (.int p2), .val (.int 0), .val (.int 4), .val (.int (p2.toInt8.toInt32)), .val (.int 0)] [(.int 0)])) := by
      intro t kt
      refine pre4 t ?_
      refine XS.icmpNo X0.here hx rfl (hb hby d25_19) rfl (teq hc3).2 ?_
      refine XS.iload X0.here hx rfl (hb hby d25_22) rfl ?_
      exact kt
    obtain ⟨fs, hr, hrun, hended, hW, hsame⟩ := X0.leave (v := some (.int 0)) (fun h => by rw [Bd.returns] at h; cases h)
    refine ⟨_, _, fin _ (pre5 _ ?_), hrun, hended, _, _, rfl, ?_, ⟨_, rfl⟩, hW, hsame.mono (by decide) (by decide)⟩
    · exact retI X0 hx Bd.returns (hb hby d25_24) hr
    · show Qioc1 Z a1 p2 k1 h0 n0 _ s₁.heap _
      rw [e0]
      exact ⟨(by show some _ = some _; rw [own_ioc1, if_pos hc3]), N0, rfl⟩
  · have pre6 : own_Go p e below S0 (s₁.setTop (mkF m 16 #[.val (.ref a1), .val (.int p2), .val (.int 0), .val (.int 4), .val (.int (p2.toInt8.toInt32)), .val (.int 1)] [(.int 1), (.ref a1)])) := by
      intro t kt
      refine pre4 t ?_
      refine XS.icmpYes X0.here hx rfl (pc0 := 19) (pc' := 25) rfl (hb hby d25_19) rfl (feq hc3).2 (by decide) (by decide) ?_
      refine XS.iinc X0.here hx rfl (hb hby d25_25) rfl (l' := #[.val (.ref a1), .val (.int p2), .val (.int 0), .val (.int 4), .val (.int (p2.toInt8.toInt32)), .val (.int 1)]) rfl ?_
      refine XS.goto X0.here hx rfl (pc0 := 28) (pc' := 7) rfl (hb hby d25_28) (by decide) (by decide) ?_
      refine XS.iload X0.here hx rfl (hb hby d25_7) rfl ?_
      refine XS.iloadN X0.here hx rfl (hb hby d25_9) rfl ?_
      refine XS.icmpNo X0.here hx rfl (hb hby d25_10) rfl (tlt (by decide : (1 : Int32) < (4 : Int32))).2.1 ?_
      show Steps p.tables e below (s₁.setTop (mkF m 13 #[.val (.ref a1), .val (.int p2), .val (.int 0), .val (.int 4), .val (.int (p2.toInt8.toInt32)), .val (.int 1)] [])) _
      refine XS.aloadN X0.here hx rfl (hb hby d25_13) rfl rfl ?_
      refine XS.iload X0.here hx rfl (hb hby d25_14) rfl ?_
      exact kt
    obtain ⟨cl7, Ar7, -, Sz7, -, Hs7, -⟩ := id V1
    have hin7 : ¬ ((1 : Int32) < 0 ∨ cl7.slots.size ≤ ((1 : Int32)).toNatClampNeg) := inb_of Sz7 ⟨by decide, by decide⟩
    have pre9 : own_Go p e below S0 (s₁.setTop (mkF m 19 #[.val (.ref a1), .val (.int p2), .val (.int 0), .val (.int 4), .val (.int (p2.toInt8.toInt32)), .val (.int 1)] [(.int (p2.toInt8.toInt32)), (.int 95)])) := by
      intro t kt
      refine pre6 t ?_
      refine X0.baloadBytes hx (j := (1 : Int32)) (v := (.int 95)) (by rw [e0]; exact Ar7.1) (State.isArrayOf_alike hZ.alike Ar7.2.1) Ar7.2.2 hin7 (Hs7.at hin7 rfl) (g := (mkF m 16 #[.val (.ref a1), .val (.int p2), .val (.int 0), .val (.int 4), .val (.int (p2.toInt8.toInt32)), .val (.int 1)] [(.int 1), (.ref a1)])) rfl rfl (hb hby d25_16) _ ?_
      refine XS.iload X0.here hx rfl (hb hby d25_17) rfl ?_
      exact kt
    by_cases hc8 : (95 : Int32) = (p2.toInt8.toInt32)
    · have pre10 : own_Go p e below S0 (s₁.setTop (mkF m 24 #[.val (.ref a1), .val (.int p2), .val (.int 0), .val (.int 4), .val (.int (p2.toInt8.toInt32)), .val (.int 1)] [(.int 1)])) := by
        intro t kt
        refine pre9 t ?_
        refine XS.icmpNo X0.here hx rfl (hb hby d25_19) rfl (teq hc8).2 ?_
        refine XS.iload X0.here hx rfl (hb hby d25_22) rfl ?_
        exact kt
      obtain ⟨fs, hr, hrun, hended, hW, hsame⟩ := X0.leave (v := some (.int 1)) (fun h => by rw [Bd.returns] at h; cases h)
      refine ⟨_, _, fin _ (pre10 _ ?_), hrun, hended, _, _, rfl, ?_, ⟨_, rfl⟩, hW, hsame.mono (by decide) (by decide)⟩
      · exact retI X0 hx Bd.returns (hb hby d25_24) hr
      · show Qioc1 Z a1 p2 k1 h0 n0 _ s₁.heap _
        rw [e0]
        exact ⟨(by show some _ = some _; rw [own_ioc1, if_neg hc3, if_pos hc8]), N0, rfl⟩
    · have pre11 : own_Go p e below S0 (s₁.setTop (mkF m 16 #[.val (.ref a1), .val (.int p2), .val (.int 0), .val (.int 4), .val (.int (p2.toInt8.toInt32)), .val (.int 2)] [(.int 2), (.ref a1)])) := by
        intro t kt
        refine pre9 t ?_
        refine XS.icmpYes X0.here hx rfl (pc0 := 19) (pc' := 25) rfl (hb hby d25_19) rfl (feq hc8).2 (by decide) (by decide) ?_
        refine XS.iinc X0.here hx rfl (hb hby d25_25) rfl (l' := #[.val (.ref a1), .val (.int p2), .val (.int 0), .val (.int 4), .val (.int (p2.toInt8.toInt32)), .val (.int 2)]) rfl ?_
        refine XS.goto X0.here hx rfl (pc0 := 28) (pc' := 7) rfl (hb hby d25_28) (by decide) (by decide) ?_
        refine XS.iload X0.here hx rfl (hb hby d25_7) rfl ?_
        refine XS.iloadN X0.here hx rfl (hb hby d25_9) rfl ?_
        refine XS.icmpNo X0.here hx rfl (hb hby d25_10) rfl (tlt (by decide : (2 : Int32) < (4 : Int32))).2.1 ?_
        show Steps p.tables e below (s₁.setTop (mkF m 13 #[.val (.ref a1), .val (.int p2), .val (.int 0), .val (.int 4), .val (.int (p2.toInt8.toInt32)), .val (.int 2)] [])) _
        refine XS.aloadN X0.here hx rfl (hb hby d25_13) rfl rfl ?_
        refine XS.iload X0.here hx rfl (hb hby d25_14) rfl ?_
        exact kt
      obtain ⟨cl12, Ar12, -, Sz12, -, Hs12, -⟩ := id V1
      have hin12 : ¬ ((2 : Int32) < 0 ∨ cl12.slots.size ≤ ((2 : Int32)).toNatClampNeg) := inb_of Sz12 ⟨by decide, by decide⟩
      have pre14 : own_Go p e below S0 (s₁.setTop (mkF m 19 #[.val (.ref a1), .val (.int p2), .val (.int 0), .val (.int 4), .val (.int (p2.toInt8.toInt32)), .val (.int 2)] [(.int (p2.toInt8.toInt32)), (.int 45)])) := by
        intro t kt
        refine pre11 t ?_
        refine X0.baloadBytes hx (j := (2 : Int32)) (v := (.int 45)) (by rw [e0]; exact Ar12.1) (State.isArrayOf_alike hZ.alike Ar12.2.1) Ar12.2.2 hin12 (Hs12.at hin12 rfl) (g := (mkF m 16 #[.val (.ref a1), .val (.int p2), .val (.int 0), .val (.int 4), .val (.int (p2.toInt8.toInt32)), .val (.int 2)] [(.int 2), (.ref a1)])) rfl rfl (hb hby d25_16) _ ?_
        refine XS.iload X0.here hx rfl (hb hby d25_17) rfl ?_
        exact kt
      by_cases hc13 : (45 : Int32) = (p2.toInt8.toInt32)
      · have pre15 : own_Go p e below S0 (s₁.setTop (mkF m 24 #[.val (.ref a1), .val (.int p2), .val (.int 0), .val (.int 4), .val (.int (p2.toInt8.toInt32)), .val (.int 2)] [(.int 2)])) := by
          intro t kt
          refine pre14 t ?_
          refine XS.icmpNo X0.here hx rfl (hb hby d25_19) rfl (teq hc13).2 ?_
          refine XS.iload X0.here hx rfl (hb hby d25_22) rfl ?_
          exact kt
        obtain ⟨fs, hr, hrun, hended, hW, hsame⟩ := X0.leave (v := some (.int 2)) (fun h => by rw [Bd.returns] at h; cases h)
        refine ⟨_, _, fin _ (pre15 _ ?_), hrun, hended, _, _, rfl, ?_, ⟨_, rfl⟩, hW, hsame.mono (by decide) (by decide)⟩
        · exact retI X0 hx Bd.returns (hb hby d25_24) hr
        · show Qioc1 Z a1 p2 k1 h0 n0 _ s₁.heap _
          rw [e0]
          exact ⟨(by show some _ = some _; rw [own_ioc1, if_neg hc3, if_neg hc8, if_pos hc13]), N0, rfl⟩
      · have pre16 : own_Go p e below S0 (s₁.setTop (mkF m 16 #[.val (.ref a1), .val (.int p2), .val (.int 0), .val (.int 4), .val (.int (p2.toInt8.toInt32)), .val (.int 3)] [(.int 3), (.ref a1)])) := by
          intro t kt
          refine pre14 t ?_
          refine XS.icmpYes X0.here hx rfl (pc0 := 19) (pc' := 25) rfl (hb hby d25_19) rfl (feq hc13).2 (by decide) (by decide) ?_
          refine XS.iinc X0.here hx rfl (hb hby d25_25) rfl (l' := #[.val (.ref a1), .val (.int p2), .val (.int 0), .val (.int 4), .val (.int (p2.toInt8.toInt32)), .val (.int 3)]) rfl ?_
          refine XS.goto X0.here hx rfl (pc0 := 28) (pc' := 7) rfl (hb hby d25_28) (by decide) (by decide) ?_
          refine XS.iload X0.here hx rfl (hb hby d25_7) rfl ?_
          refine XS.iloadN X0.here hx rfl (hb hby d25_9) rfl ?_
          refine XS.icmpNo X0.here hx rfl (hb hby d25_10) rfl (tlt (by decide : (3 : Int32) < (4 : Int32))).2.1 ?_
          show Steps p.tables e below (s₁.setTop (mkF m 13 #[.val (.ref a1), .val (.int p2), .val (.int 0), .val (.int 4), .val (.int (p2.toInt8.toInt32)), .val (.int 3)] [])) _
          refine XS.aloadN X0.here hx rfl (hb hby d25_13) rfl rfl ?_
          refine XS.iload X0.here hx rfl (hb hby d25_14) rfl ?_
          exact kt
        obtain ⟨cl17, Ar17, -, Sz17, -, Hs17, -⟩ := id V1
        have hin17 : ¬ ((3 : Int32) < 0 ∨ cl17.slots.size ≤ ((3 : Int32)).toNatClampNeg) := inb_of Sz17 ⟨by decide, by decide⟩
        have pre19 : own_Go p e below S0 (s₁.setTop (mkF m 19 #[.val (.ref a1), .val (.int p2), .val (.int 0), .val (.int 4), .val (.int (p2.toInt8.toInt32)), .val (.int 3)] [(.int (p2.toInt8.toInt32)), (.int 58)])) := by
          intro t kt
          refine pre16 t ?_
          refine X0.baloadBytes hx (j := (3 : Int32)) (v := (.int 58)) (by rw [e0]; exact Ar17.1) (State.isArrayOf_alike hZ.alike Ar17.2.1) Ar17.2.2 hin17 (Hs17.at hin17 rfl) (g := (mkF m 16 #[.val (.ref a1), .val (.int p2), .val (.int 0), .val (.int 4), .val (.int (p2.toInt8.toInt32)), .val (.int 3)] [(.int 3), (.ref a1)])) rfl rfl (hb hby d25_16) _ ?_
          refine XS.iload X0.here hx rfl (hb hby d25_17) rfl ?_
          exact kt
        by_cases hc18 : (58 : Int32) = (p2.toInt8.toInt32)
        · have pre20 : own_Go p e below S0 (s₁.setTop (mkF m 24 #[.val (.ref a1), .val (.int p2), .val (.int 0), .val (.int 4), .val (.int (p2.toInt8.toInt32)), .val (.int 3)] [(.int 3)])) := by
            intro t kt
            refine pre19 t ?_
            refine XS.icmpNo X0.here hx rfl (hb hby d25_19) rfl (teq hc18).2 ?_
            refine XS.iload X0.here hx rfl (hb hby d25_22) rfl ?_
            exact kt
          obtain ⟨fs, hr, hrun, hended, hW, hsame⟩ := X0.leave (v := some (.int 3)) (fun h => by rw [Bd.returns] at h; cases h)
          refine ⟨_, _, fin _ (pre20 _ ?_), hrun, hended, _, _, rfl, ?_, ⟨_, rfl⟩, hW, hsame.mono (by decide) (by decide)⟩
          · exact retI X0 hx Bd.returns (hb hby d25_24) hr
          · show Qioc1 Z a1 p2 k1 h0 n0 _ s₁.heap _
            rw [e0]
            exact ⟨(by show some _ = some _; rw [own_ioc1, if_neg hc3, if_neg hc8, if_neg hc13, if_pos hc18]), N0, rfl⟩
        · have pre21 : own_Go p e below S0 (s₁.setTop (mkF m 32 #[.val (.ref a1), .val (.int p2), .val (.int 0), .val (.int 4), .val (.int (p2.toInt8.toInt32)), .val (.int 4)] [(.int (-1 : Int32))])) := by
            intro t kt
            refine pre19 t ?_
            refine XS.icmpYes X0.here hx rfl (pc0 := 19) (pc' := 25) rfl (hb hby d25_19) rfl (feq hc18).2 (by decide) (by decide) ?_
            refine XS.iinc X0.here hx rfl (hb hby d25_25) rfl (l' := #[.val (.ref a1), .val (.int p2), .val (.int 0), .val (.int 4), .val (.int (p2.toInt8.toInt32)), .val (.int 4)]) rfl ?_
            refine XS.goto X0.here hx rfl (pc0 := 28) (pc' := 7) rfl (hb hby d25_28) (by decide) (by decide) ?_
            refine XS.iload X0.here hx rfl (hb hby d25_7) rfl ?_
            refine XS.iloadN X0.here hx rfl (hb hby d25_9) rfl ?_
            refine XS.icmpYes X0.here hx rfl (pc0 := 10) (pc' := 31) rfl (hb hby d25_10) rfl (flt (by decide : ¬ ((4 : Int32) < (4 : Int32)))).2.1 (by decide) (by decide) ?_
            show Steps p.tables e below (s₁.setTop (mkF m 31 #[.val (.ref a1), .val (.int p2), .val (.int 0), .val (.int 4), .val (.int (p2.toInt8.toInt32)), .val (.int 4)] [])) _
            refine XS.iconst X0.here hx rfl (hb hby d25_31) ?_
            exact kt
          obtain ⟨fs, hr, hrun, hended, hW, hsame⟩ := X0.leave (v := some (.int (-1 : Int32))) (fun h => by rw [Bd.returns] at h; cases h)
          refine ⟨_, _, fin _ (pre21 _ ?_), hrun, hended, _, _, rfl, ?_, ⟨_, rfl⟩, hW, hsame.mono (by decide) (by decide)⟩
          · exact retI X0 hx Bd.returns (hb hby d25_32) hr
          · show Qioc1 Z a1 p2 k1 h0 n0 _ s₁.heap _
            rw [e0]
            exact ⟨(by show some _ = some _; rw [own_ioc1, if_neg hc3, if_neg hc8, if_neg hc13, if_neg hc18]), N0, rfl⟩

theorem ef_iof1 (m : MethodId) (x0 : Addr) (x1 : Int32) : entryFrame m #[(.ref x0), (.int x1), (.int 0), (.int 4)] 4 = mkF m 0 #[.val (.ref x0), .val (.int x1), .val (.int 0), .val (.int 4)] [] := by first | (simp [entryFrame, mkF, argsToLocals, Value.category]; done) | rfl
def own_iof1 (p2 : Int32) : Int32 := (if (own_can p2) = (0 : Int32) then (-1 : Int32) else (own_ioc1 p2))
def Qiof1 (Z : State) (a1 : Addr) (p2 : Int32) (k1 : ClassId) (h0 : Heap) (n0 : Nat) (v : Option Value) (h : Heap) (L : List Loc) : Prop := v = (some (.int (own_iof1 p2))) ∧ Fr n0 L ∧ h = h0
set_option maxRecDepth 65536 in
set_option maxHeartbeats 40000000 in
theorem rmiof1 (l : Launch) (Z : State) (a0 : Array Value) (hw : ∀ d ∈ tables_1, d.before a0 Z = true) (ws : List Jvm.Cond) (a1 : Addr) (p2 : Int32) (k1 : ClassId) (h0 : Heap) (n0 : Nat) (Z0 : n0 ≤ h0.size) (V1 : Arv Z h0 a1 k1 .byte (4 : Int32) [(.int 46), (.int 95), (.int 45), (.int 58)] (.int 0)) :
    MetFree l own_m18 (head1 (Jvm.Cond.code own_m18 jdk_43_method_22_code 4 (some .int) :: ws) (own_r 1 0 0 17)) (fun a U => a = #[(.ref a1), (.int p2), (.int 0), (.int 4)] ∧ Z.Warmed39 U.vm ∧ U.heap = h0) (fun _ _ _ _ _ => True) (fun _ U o U' => ∃ v L, o = .returned v ∧ Qiof1 Z a1 p2 k1 h0 n0 v U'.heap L ∧ FrameEnd U o U' L (own_r 1 0 0 17).cells (own_r 1 0 0 17).slots) := by
  refine MetFree.of_bodySF (plainFor_of_name pn_21) hisR ?_
  intro p e s m args below meth c s₁ Bd hml0 hP hK
  obtain ⟨rfl, hZ, hh⟩ := hP
  have hx := Bd.exec
  have hby := Bd.bytes
  have hml : c.maxLocals = 4 := hml0
  have hown0 := findClass_of_methodNamed Bd.named
  have hown : s.vm.findClass "java/lang/StringLatin1" = some m.cls := hown0
  have hnm := (name_of_methodNamed Bd.named Bd.method).1
  have X0 : Stand p l e (own_r 1 0 0 17) s m #[(.ref a1), (.int p2), (.int 0), (.int 4)] below meth c s₁ [] 0 0 := Stand.of_body Bd
  have e0 : s₁.heap = h0 := by rw [← hh, Bd.state]; rfl
  have N0 := Fr.nil n0
  obtain ⟨S0, hS0⟩ : ∃ z, z = s₁.setTop (entryFrame m #[(.ref a1), (.int p2), (.int 0), (.int 4)] 4) := ⟨_, rfl⟩
  have pre0 : own_Go p e below S0 (s₁.setTop (mkF m 0 #[.val (.ref a1), .val (.int p2), .val (.int 0), .val (.int 4)] [])) := fun t k => by rw [hS0]; exact castTop (ef_iof1 m a1 p2) k
  have fin : ∀ t, Steps p.tables e below S0 t → Steps p.tables e below (s₁.setTop (entryFrame m #[(.ref a1), (.int p2), (.int 0), (.int 4)] 4)) t := fun t k => by rw [hS0] at k; exact k
  have pre1 : own_Go p e below S0 (s₁.setTop (mkF m 1 #[.val (.ref a1), .val (.int p2), .val (.int 0), .val (.int 4)] [(.int p2)])) := by
    intro t kt
    refine pre0 t ?_
    refine XS.iloadN X0.here hx rfl (hb hby d21_0) rfl ?_
    exact kt
  obtain ⟨_, _, ⟨T2, L2, k2, n2⟩, -, X2, ⟨Lc2, hQ2, l2, y2, z2⟩, st2⟩ := Jvm.LawKit.callS X0 hx (y := own_m16) hown (mvT hZ (hw _ (own_w 104 rfl))) (mvT hZ (hw _ (own_w 105 rfl))) (mvT hZ (hw _ (own_w 74 rfl))) (mvT hZ (hw _ (own_w 106 rfl))) (by decide) (backOf (W := 0) (rm22 l Z a0 hw [] p2 h0 n0 Z0 ) hZ (hw _ (own_w 106 rfl)) (hw _ (own_w 74 rfl)) (by decide) (by decide)) (g := (mkF m 1 #[.val (.ref a1), .val (.int p2), .val (.int 0), .val (.int 4)] [(.int p2)])) rfl (by rw [hml]; rfl) (argsL := [(.int p2)]) (rest := []) (lenOf pd_15 rfl) rfl (by show 2 * 0 + _ ≤ _; exact Nat.le_of_eq rfl) (hb hby d21_1) (fun _ _ => ⟨rfl, e0, (by decide : 0 + 0 ≤ _), (by decide : 0 + 0 ≤ _)⟩)
  dsimp only [Pt.U, Pt.locs, Pt.cells, Pt.slots] at X2 l2 y2 z2 st2 hQ2
  subst l2 y2 z2
  obtain ⟨rfl, Nq2, eq2⟩ := hQ2
  have N2 := Fr.app N0 Nq2
  have pre4 : own_Go p e below S0 (T2.setTop (mkF m 4 #[.val (.ref a1), .val (.int p2), .val (.int 0), .val (.int 4)] [(.int (own_can p2))])) := by
    intro t kt
    refine pre1 t ?_
    refine st2 _ ?_
    show Steps p.tables e below (T2.setTop (mkF m 4 #[.val (.ref a1), .val (.int p2), .val (.int 0), .val (.int 4)] [(.int (own_can p2))])) _
    exact kt
  by_cases hc3 : (own_can p2) = (0 : Int32)
  · have pre5 : own_Go p e below S0 (T2.setTop (mkF m 8 #[.val (.ref a1), .val (.int p2), .val (.int 0), .val (.int 4)] [(.int (-1 : Int32))])) := by
      intro t kt
      refine pre4 t ?_
      refine XS.ifNo X2.here hx rfl (hb hby d21_4) rfl ((if0 _ _).trans (teq hc3).2) ?_
      refine XS.iconst X2.here hx rfl (hb hby d21_7) ?_
      exact kt
    obtain ⟨fs, hr, hrun, hended, hW, hsame⟩ := X2.leave (v := some (.int (-1 : Int32))) (fun h => by rw [Bd.returns] at h; cases h)
    refine ⟨_, _, fin _ (pre5 _ ?_), hrun, hended, _, _, rfl, ?_, ⟨_, rfl⟩, hW, hsame.mono (by decide) (by decide)⟩
    · exact retI X2 hx Bd.returns (hb hby d21_8) hr
    · show Qiof1 Z a1 p2 k1 h0 n0 _ T2.heap _
      rw [eq2]
      exact ⟨(by show some _ = some _; rw [own_iof1, if_pos hc3]), N2, rfl⟩
  · have pre6 : own_Go p e below S0 (T2.setTop (mkF m 11 #[.val (.ref a1), .val (.int p2), .val (.int 0), .val (.int 4)] [(.int 0), (.int 0)])) := by
      intro t kt
      refine pre4 t ?_
      refine XS.ifYes X2.here hx rfl (pc0 := 4) (pc' := 9) rfl (hb hby d21_4) rfl ((if0 _ _).trans (feq hc3).2) (by decide) (by decide) ?_
      refine XS.iloadN X2.here hx rfl (hb hby d21_9) rfl ?_
      refine XS.iconst X2.here hx rfl (hb hby d21_10) ?_
      exact kt
    obtain ⟨_, _, ⟨T7, L7, k7, n7⟩, -, X7, ⟨Lc7, hQ7, l7, y7, z7⟩, st7⟩ := Jvm.LawKit.callS X2 hx (y := own_m4) hown (mvT hZ (hw _ (own_w 107 rfl))) (mvT hZ (hw _ (own_w 108 rfl))) (mvT hZ (hw _ (own_w 109 rfl))) (mvT hZ (hw _ (own_w 110 rfl))) (by decide) (backOf (W := 0) (rm23 l Z a0 hw [] (0 : Int32) (0 : Int32) h0 n0 Z0 ) hZ (hw _ (own_w 110 rfl)) (hw _ (own_w 109 rfl)) (by decide) (by decide)) (g := (mkF m 11 #[.val (.ref a1), .val (.int p2), .val (.int 0), .val (.int 4)] [(.int 0), (.int 0)])) rfl (by rw [hml]; rfl) (argsL := [(.int 0), (.int 0)]) (rest := []) (lenOf pd_16 rfl) rfl (by show 2 * 0 + _ ≤ _; exact Nat.le_of_eq rfl) (hb hby d21_11) (fun _ _ => ⟨rfl, eq2, (by decide : 0 + 0 ≤ _), (by decide : 0 + 0 ≤ _)⟩)
    dsimp only [Pt.U, Pt.locs, Pt.cells, Pt.slots] at X7 l7 y7 z7 st7 hQ7
    subst l7 y7 z7
    obtain ⟨rfl, Nq7, eq7⟩ := hQ7
    have N7 := Fr.app N2 Nq7
    have pre8 : own_Go p e below S0 (T7.setTop (mkF m 14 #[.val (.ref a1), .val (.int p2), .val (.int 0), .val (.int 4)] [(.int (own_mx (0 : Int32) (0 : Int32)))])) := by
      intro t kt
      refine pre6 t ?_
      refine st7 _ ?_
      show Steps p.tables e below (T7.setTop (mkF m 14 #[.val (.ref a1), .val (.int p2), .val (.int 0), .val (.int 4)] [(.int (own_mx (0 : Int32) (0 : Int32)))])) _
      exact kt
    have pre9 : own_Go p e below S0 (T7.setTop (mkF m 14 #[.val (.ref a1), .val (.int p2), .val (.int 0), .val (.int 4)] [(.int 0)])) := by
      intro t kt
      refine pre8 t ?_
      rw [(by decide : (own_mx (0 : Int32) (0 : Int32)) = (0 : Int32))]
      exact kt
    have pre10 : own_Go p e below S0 (T7.setTop (mkF m 17 #[.val (.ref a1), .val (.int p2), .val (.int 0), .val (.int 4)] [(.ref a1), (.int 4)])) := by
      intro t kt
      refine pre9 t ?_
      refine XS.istoreN X7.here hx rfl (hb hby d21_14) rfl (l' := #[.val (.ref a1), .val (.int p2), .val (.int 0), .val (.int 4)]) rfl ?_
      refine XS.iloadN X7.here hx rfl (hb hby d21_15) rfl ?_
      refine XS.aloadN X7.here hx rfl (hb hby d21_16) rfl rfl ?_
      exact kt
    obtain ⟨cl11, Ar11, -, Sz11, Ng11, -, -⟩ := id V1
    have pre12 : own_Go p e below S0 (T7.setTop (mkF m 18 #[.val (.ref a1), .val (.int p2), .val (.int 0), .val (.int 4)] [(.int 4), (.int 4)])) := by
      intro t kt
      refine pre10 t ?_
      refine X7.arraylength hx (by rw [eq7]; exact Ar11.1) (State.isArrayOf_alike hZ.alike Ar11.2.1) (g := (mkF m 17 #[.val (.ref a1), .val (.int p2), .val (.int 0), .val (.int 4)] [(.ref a1), (.int 4)])) rfl rfl (hb hby d21_17) _ ?_
      rw [len_of Sz11 Ng11]
      show Steps p.tables e below (T7.setTop (mkF m 18 #[.val (.ref a1), .val (.int p2), .val (.int 0), .val (.int 4)] [(.int 4), (.int 4)])) _
      exact kt
    obtain ⟨_, _, ⟨T13, L13, k13, n13⟩, -, X13, ⟨Lc13, hQ13, l13, y13, z13⟩, st13⟩ := Jvm.LawKit.callS X7 hx (y := own_m5) hown (mvT hZ (hw _ (own_w 111 rfl))) (mvT hZ (hw _ (own_w 112 rfl))) (mvT hZ (hw _ (own_w 109 rfl))) (mvT hZ (hw _ (own_w 113 rfl))) (by decide) (backOf (W := 0) (rm24 l Z a0 hw [] (4 : Int32) (4 : Int32) h0 n0 Z0 ) hZ (hw _ (own_w 113 rfl)) (hw _ (own_w 109 rfl)) (by decide) (by decide)) (g := (mkF m 18 #[.val (.ref a1), .val (.int p2), .val (.int 0), .val (.int 4)] [(.int 4), (.int 4)])) rfl (by rw [hml]; rfl) (argsL := [(.int 4), (.int 4)]) (rest := []) (lenOf pd_16 rfl) rfl (by show 2 * 0 + _ ≤ _; exact Nat.le_of_eq rfl) (hb hby d21_18) (fun _ _ => ⟨rfl, eq7, (by decide : 0 + 0 ≤ _), (by decide : 0 + 0 ≤ _)⟩)
    dsimp only [Pt.U, Pt.locs, Pt.cells, Pt.slots] at X13 l13 y13 z13 st13 hQ13
    subst l13 y13 z13
    obtain ⟨rfl, Nq13, eq13⟩ := hQ13
    have N13 := Fr.app N7 Nq13
    have pre14 : own_Go p e below S0 (T13.setTop (mkF m 21 #[.val (.ref a1), .val (.int p2), .val (.int 0), .val (.int 4)] [(.int (own_mn (4 : Int32) (4 : Int32)))])) := by
      intro t kt
      refine pre12 t ?_
      refine st13 _ ?_
      show Steps p.tables e below (T13.setTop (mkF m 21 #[.val (.ref a1), .val (.int p2), .val (.int 0), .val (.int 4)] [(.int (own_mn (4 : Int32) (4 : Int32)))])) _
      exact kt
    have pre15 : own_Go p e below S0 (T13.setTop (mkF m 21 #[.val (.ref a1), .val (.int p2), .val (.int 0), .val (.int 4)] [(.int 4)])) := by
      intro t kt
      refine pre14 t ?_
      rw [(by decide : (own_mn (4 : Int32) (4 : Int32)) = (4 : Int32))]
      exact kt
    have pre16 : own_Go p e below S0 (T13.setTop (mkF m 33 #[.val (.ref a1), .val (.int p2), .val (.int 0), .val (.int 4)] [(.int 4), (.int 0), (.int p2), (.ref a1)])) := by
      intro t kt
      refine pre15 t ?_
      refine XS.istoreN X13.here hx rfl (hb hby d21_21) rfl (l' := #[.val (.ref a1), .val (.int p2), .val (.int 0), .val (.int 4)]) rfl ?_
      refine XS.iloadN X13.here hx rfl (hb hby d21_22) rfl ?_
      refine XS.iloadN X13.here hx rfl (hb hby d21_23) rfl ?_
      refine XS.icmpYes X13.here hx rfl (pc0 := 24) (pc' := 29) rfl (hb hby d21_24) rfl (tlt (by decide : (0 : Int32) < (4 : Int32))).1 (by decide) (by decide) ?_
      refine XS.aloadN X13.here hx rfl (hb hby d21_29) rfl rfl ?_
      refine XS.iloadN X13.here hx rfl (hb hby d21_30) rfl ?_
      show Steps p.tables e below (T13.setTop (mkF m 31 #[.val (.ref a1), .val (.int p2), .val (.int 0), .val (.int 4)] [(.int p2), (.ref a1)])) _
      refine XS.iloadN X13.here hx rfl (hb hby d21_31) rfl ?_
      refine XS.iloadN X13.here hx rfl (hb hby d21_32) rfl ?_
      exact kt
    obtain ⟨_, _, ⟨T17, L17, k17, n17⟩, -, X17, ⟨Lc17, hQ17, l17, y17, z17⟩, st17⟩ := Jvm.LawKit.callS X13 hx (y := own_m19) hown (mvT hZ (hw _ (own_w 114 rfl))) (mvT hZ (hw _ (own_w 115 rfl))) (mvT hZ (hw _ (own_w 74 rfl))) (mvT hZ (hw _ (own_w 116 rfl))) (by decide) (backOf (W := 0) (rmioc1 l Z a0 hw [] a1 p2 k1 h0 n0 Z0 V1) hZ (hw _ (own_w 116 rfl)) (hw _ (own_w 74 rfl)) (by decide) (by decide)) (g := (mkF m 33 #[.val (.ref a1), .val (.int p2), .val (.int 0), .val (.int 4)] [(.int 4), (.int 0), (.int p2), (.ref a1)])) rfl (by rw [hml]; rfl) (argsL := [(.ref a1), (.int p2), (.int 0), (.int 4)]) (rest := []) (lenOf pd_17 rfl) rfl (by show 2 * 0 + _ ≤ _; exact Nat.le_of_eq rfl) (hb hby d21_33) (fun _ _ => ⟨rfl, eq13, (by decide : 0 + 0 ≤ _), (by decide : 0 + 0 ≤ _)⟩)
    dsimp only [Pt.U, Pt.locs, Pt.cells, Pt.slots] at X17 l17 y17 z17 st17 hQ17
    subst l17 y17 z17
    obtain ⟨rfl, Nq17, eq17⟩ := hQ17
    have N17 := Fr.app N13 Nq17
    have pre18 : own_Go p e below S0 (T17.setTop (mkF m 36 #[.val (.ref a1), .val (.int p2), .val (.int 0), .val (.int 4)] [(.int (own_ioc1 p2))])) := by
      intro t kt
      refine pre16 t ?_
      refine st17 _ ?_
      show Steps p.tables e below (T17.setTop (mkF m 36 #[.val (.ref a1), .val (.int p2), .val (.int 0), .val (.int 4)] [(.int (own_ioc1 p2))])) _
      exact kt
    obtain ⟨fs, hr, hrun, hended, hW, hsame⟩ := X17.leave (v := some (.int (own_ioc1 p2))) (fun h => by rw [Bd.returns] at h; cases h)
    refine ⟨_, _, fin _ (pre18 _ ?_), hrun, hended, _, _, rfl, ?_, ⟨_, rfl⟩, hW, hsame.mono (by decide) (by decide)⟩
    · exact retI X17 hx Bd.returns (hb hby d21_36) hr
    · show Qiof1 Z a1 p2 k1 h0 n0 _ T17.heap _
      rw [eq17]
      exact ⟨(by show some _ = some _; rw [own_iof1, if_neg hc3]), N17, rfl⟩

theorem ef_lenP1 (m : MethodId) (x0 : Addr) : entryFrame m #[(.ref x0)] 1 = mkF m 0 #[.val (.ref x0)] [] := by first | (simp [entryFrame, mkF, argsToLocals, Value.category]; done) | rfl
def QlenP1 (Z : State) (a1 : Addr) (wC : Int32) (vb : Addr) (k1 : ClassId) (h0 : Heap) (n0 : Nat) (v : Option Value) (h : Heap) (L : List Loc) : Prop := v = (some (.int 4)) ∧ Fr n0 L ∧ h = h0
set_option maxRecDepth 65536 in
set_option maxHeartbeats 40000000 in
theorem rmlenP1 (l : Launch) (Z : State) (a0 : Array Value) (hw : ∀ d ∈ tables_1, d.before a0 Z = true) (ws : List Jvm.Cond) (a1 : Addr) (wC : Int32) (vb : Addr) (k1 : ClassId) (h0 : Heap) (n0 : Nat) (Z0 : n0 ≤ h0.size) (O0 : Old Z n0 h0) (qC : (own_SC Z wC)) (pE1 : Exa Z h0 a1 "java/lang/String") (FC : Fld Z h0 a1 "java/lang/String" "coder" "B" (.int 0)) (FV : Fld Z h0 a1 "java/lang/String" "value" "[B" (.ref vb)) (V1 : Arv Z h0 vb k1 .byte (4 : Int32) [(.int 46), (.int 95), (.int 45), (.int 58)] (.int 0)) :
    MetFree l own_m15 (head1 (Jvm.Cond.code own_m15 jdk_42_method_54_code 1 (some .int) :: ws) (own_r 1 0 0 13)) (fun a U => a = #[(.ref a1)] ∧ Z.Warmed39 U.vm ∧ U.heap = h0) (fun _ _ _ _ _ => True) (fun _ U o U' => ∃ v L, o = .returned v ∧ QlenP1 Z a1 wC vb k1 h0 n0 v U'.heap L ∧ FrameEnd U o U' L (own_r 1 0 0 13).cells (own_r 1 0 0 13).slots) := by
  refine MetFree.of_bodySF (plainFor_of_name pn_11) hisR ?_
  intro p e s m args below meth c s₁ Bd hml0 hP hK
  obtain ⟨rfl, hZ, hh⟩ := hP
  have hx := Bd.exec
  have hby := Bd.bytes
  have hml : c.maxLocals = 1 := hml0
  have hown0 := findClass_of_methodNamed Bd.named
  have hown : s.vm.findClass "java/lang/String" = some m.cls := hown0
  have hnm := (name_of_methodNamed Bd.named Bd.method).1
  have X0 : Stand p l e (own_r 1 0 0 13) s m #[(.ref a1)] below meth c s₁ [] 0 0 := Stand.of_body Bd
  have e0 : s₁.heap = h0 := by rw [← hh, Bd.state]; rfl
  have N0 := Fr.nil n0
  obtain ⟨S0, hS0⟩ : ∃ z, z = s₁.setTop (entryFrame m #[(.ref a1)] 1) := ⟨_, rfl⟩
  have pre0 : own_Go p e below S0 (s₁.setTop (mkF m 0 #[.val (.ref a1)] [])) := fun t k => by rw [hS0]; exact castTop (ef_lenP1 m a1) k
  have fin : ∀ t, Steps p.tables e below S0 t → Steps p.tables e below (s₁.setTop (entryFrame m #[(.ref a1)] 1)) t := fun t k => by rw [hS0] at k; exact k
  have pre1 : own_Go p e below S0 (s₁.setTop (mkF m 1 #[.val (.ref a1)] [(.ref a1)])) := by
    intro t kt
    refine pre0 t ?_
    refine XS.aloadN X0.here hx rfl (hb hby d11_0) rfl rfl ?_
    exact kt
  obtain ⟨T2, X2, e2, st2⟩ := getF X0 hx hZ hown (host := "") (Or.inl (hw _ (own_w 37 rfl))) Via.refl e0 FV (g := (mkF m 1 #[.val (.ref a1)] [(.ref a1)])) rfl rfl (hb hby d11_1)
  have pre3 : own_Go p e below S0 (T2.setTop (mkF m 4 #[.val (.ref a1)] [(.ref vb)])) := by
    intro t kt
    refine pre1 t ?_
    refine st2 _ ?_
    exact kt
  obtain ⟨cl4, Ar4, -, Sz4, Ng4, -, -⟩ := id V1
  have pre5 : own_Go p e below S0 (T2.setTop (mkF m 6 #[.val (.ref a1)] [(.ref a1), (.int 4)])) := by
    intro t kt
    refine pre3 t ?_
    refine X2.arraylength hx (by rw [e2]; exact Ar4.1) (State.isArrayOf_alike hZ.alike Ar4.2.1) (g := (mkF m 4 #[.val (.ref a1)] [(.ref vb)])) rfl rfl (hb hby d11_4) _ ?_
    rw [len_of Sz4 Ng4]
    show Steps p.tables e below (T2.setTop (mkF m 5 #[.val (.ref a1)] [(.int 4)])) _
    refine XS.aloadN X2.here hx rfl (hb hby d11_5) rfl rfl ?_
    exact kt
  obtain ⟨cq6, kq6, qa6, qb6, qc6⟩ := isOf hZ e2 pE1
  obtain ⟨_, _, ⟨T6, L6, k6, n6⟩, -, X6, ⟨Lc6, hQ6, l6, y6, z6⟩, st6⟩ := X2.virtualBack hx (y := own_m10) (z := own_m10) hown (mvT hZ (hw _ (own_w 57 rfl))) (mvT hZ (hw _ (own_w 58 rfl))) (notFace_of_selects (args := #[]) (mvT hZ (hw _ (own_w 60 rfl)))) (mvT hZ (hw _ (own_w 60 rfl))) (mvT hZ (hw _ (own_w 59 rfl))) (by decide) (backOf (W := 1) (rmcoder0 l Z a0 hw [] a1 wC h0 n0 Z0 O0 qC FC) hZ (hw _ (own_w 61 rfl)) (hw _ (own_w 11 rfl)) (by decide) (by decide)) qa6 qc6 (g := (mkF m 6 #[.val (.ref a1)] [(.ref a1), (.int 4)])) rfl (by rw [hml]; rfl) (Steps.refl _) (argsL := []) (rest := [(.int 4)]) (lenOf pd_8 rfl) rfl (by show 2 * 0 + _ ≤ _; exact Nat.le_of_eq rfl) (hb hby d11_6) (fun _ _ => ⟨rfl, e2, (by decide : 0 + 0 ≤ _), (by decide : 0 + 0 ≤ _)⟩)
  dsimp only [Pt.U, Pt.locs, Pt.cells, Pt.slots] at X6 l6 y6 z6 st6 hQ6
  subst l6 y6 z6
  obtain ⟨rfl, Nq6, eq6⟩ := hQ6
  have N6 := Fr.app N0 Nq6
  have pre7 : own_Go p e below S0 (T6.setTop (mkF m 10 #[.val (.ref a1)] [(.int 4)])) := by
    intro t kt
    refine pre5 t ?_
    refine st6.trans ?_
    show Steps p.tables e below (T6.setTop (mkF m 9 #[.val (.ref a1)] [(.int 0), (.int 4)])) _
    refine XS.ishr X6.here hx rfl (hb hby d11_9) rfl ?_
    exact kt
  obtain ⟨fs, hr, hrun, hended, hW, hsame⟩ := X6.leave (v := some (.int 4)) (fun h => by rw [Bd.returns] at h; cases h)
  refine ⟨_, _, fin _ (pre7 _ ?_), hrun, hended, _, _, rfl, ?_, ⟨_, rfl⟩, hW, hsame.mono (by decide) (by decide)⟩
  · exact retI X6 hx Bd.returns (hb hby d11_10) hr
  · show QlenP1 Z a1 wC vb k1 h0 n0 _ T6.heap _
    rw [eq6]
    exact ⟨rfl, N6, rfl⟩

theorem ef_io2_1 (m : MethodId) (x0 : Addr) (x1 : Int32) : entryFrame m #[(.ref x0), (.int x1), (.int 0)] 3 = mkF m 0 #[.val (.ref x0), .val (.int x1), .val (.int 0)] [] := by first | (simp [entryFrame, mkF, argsToLocals, Value.category]; done) | rfl
def Qio2_1 (Z : State) (a1 : Addr) (p2 : Int32) (wC : Int32) (vb : Addr) (k1 : ClassId) (h0 : Heap) (n0 : Nat) (v : Option Value) (h : Heap) (L : List Loc) : Prop := v = (some (.int (own_iof1 p2))) ∧ Fr n0 L ∧ h = h0
set_option maxRecDepth 65536 in
set_option maxHeartbeats 40000000 in
theorem rmio2_1 (l : Launch) (Z : State) (a0 : Array Value) (hw : ∀ d ∈ tables_1, d.before a0 Z = true) (ws : List Jvm.Cond) (a1 : Addr) (p2 : Int32) (wC : Int32) (vb : Addr) (k1 : ClassId) (h0 : Heap) (n0 : Nat) (Z0 : n0 ≤ h0.size) (O0 : Old Z n0 h0) (qC : (own_SC Z wC)) (pE1 : Exa Z h0 a1 "java/lang/String") (FC : Fld Z h0 a1 "java/lang/String" "coder" "B" (.int 0)) (FV : Fld Z h0 a1 "java/lang/String" "value" "[B" (.ref vb)) (V1 : Arv Z h0 vb k1 .byte (4 : Int32) [(.int 46), (.int 95), (.int 45), (.int 58)] (.int 0)) :
    MetFree l own_m12 (head1 (Jvm.Cond.code own_m12 jdk_42_method_80_code 3 (some .int) :: ws) (own_r 2 0 0 32)) (fun a U => a = #[(.ref a1), (.int p2), (.int 0)] ∧ Z.Warmed39 U.vm ∧ U.heap = h0) (fun _ _ _ _ _ => True) (fun _ U o U' => ∃ v L, o = .returned v ∧ Qio2_1 Z a1 p2 wC vb k1 h0 n0 v U'.heap L ∧ FrameEnd U o U' L (own_r 2 0 0 32).cells (own_r 2 0 0 32).slots) := by
  refine MetFree.of_bodySF (plainFor_of_name pn_20) hisR ?_
  intro p e s m args below meth c s₁ Bd hml0 hP hK
  obtain ⟨rfl, hZ, hh⟩ := hP
  have hx := Bd.exec
  have hby := Bd.bytes
  have hml : c.maxLocals = 3 := hml0
  have hown0 := findClass_of_methodNamed Bd.named
  have hown : s.vm.findClass "java/lang/String" = some m.cls := hown0
  have hnm := (name_of_methodNamed Bd.named Bd.method).1
  have X0 : Stand p l e (own_r 2 0 0 32) s m #[(.ref a1), (.int p2), (.int 0)] below meth c s₁ [] 0 0 := Stand.of_body Bd
  have e0 : s₁.heap = h0 := by rw [← hh, Bd.state]; rfl
  have N0 := Fr.nil n0
  obtain ⟨S0, hS0⟩ : ∃ z, z = s₁.setTop (entryFrame m #[(.ref a1), (.int p2), (.int 0)] 3) := ⟨_, rfl⟩
  have pre0 : own_Go p e below S0 (s₁.setTop (mkF m 0 #[.val (.ref a1), .val (.int p2), .val (.int 0)] [])) := fun t k => by rw [hS0]; exact castTop (ef_io2_1 m a1 p2) k
  have fin : ∀ t, Steps p.tables e below S0 t → Steps p.tables e below (s₁.setTop (entryFrame m #[(.ref a1), (.int p2), (.int 0)] 3)) t := fun t k => by rw [hS0] at k; exact k
  have pre1 : own_Go p e below S0 (s₁.setTop (mkF m 1 #[.val (.ref a1), .val (.int p2), .val (.int 0)] [(.ref a1)])) := by
    intro t kt
    refine pre0 t ?_
    refine XS.aloadN X0.here hx rfl (hb hby d20_0) rfl rfl ?_
    exact kt
  obtain ⟨cq2, kq2, qa2, qb2, qc2⟩ := isOf hZ e0 pE1
  obtain ⟨_, _, ⟨T2, L2, k2, n2⟩, -, X2, ⟨Lc2, hQ2, l2, y2, z2⟩, st2⟩ := X0.virtualBack hx (y := own_m14) (z := own_m14) hown (mvT hZ (hw _ (own_w 67 rfl))) (mvT hZ (hw _ (own_w 68 rfl))) (notFace_of_selects (args := #[]) (mvT hZ (hw _ (own_w 70 rfl)))) (mvT hZ (hw _ (own_w 70 rfl))) (mvT hZ (hw _ (own_w 69 rfl))) (by decide) (backOf (W := 0) (rmisLat0 l Z a0 hw [] a1 wC h0 n0 Z0 O0 qC FC) hZ (hw _ (own_w 71 rfl)) (hw _ (own_w 11 rfl)) (by decide) (by decide)) qa2 qc2 (g := (mkF m 1 #[.val (.ref a1), .val (.int p2), .val (.int 0)] [(.ref a1)])) rfl (by rw [hml]; rfl) (Steps.refl _) (argsL := []) (rest := []) (lenOf pd_13 rfl) rfl (by show 2 * 0 + _ ≤ _; exact Nat.le_of_eq rfl) (hb hby d20_1) (fun _ _ => ⟨rfl, e0, (by decide : 0 + 0 ≤ _), (by decide : 0 + 0 ≤ _)⟩)
  dsimp only [Pt.U, Pt.locs, Pt.cells, Pt.slots] at X2 l2 y2 z2 st2 hQ2
  subst l2 y2 z2
  obtain ⟨rfl, Nq2, eq2⟩ := hQ2
  have N2 := Fr.app N0 Nq2
  have pre3 : own_Go p e below S0 (T2.setTop (mkF m 8 #[.val (.ref a1), .val (.int p2), .val (.int 0)] [(.ref a1)])) := by
    intro t kt
    refine pre1 t ?_
    refine st2.trans ?_
    show Steps p.tables e below (T2.setTop (mkF m 4 #[.val (.ref a1), .val (.int p2), .val (.int 0)] [(.int 1)])) _
    refine XS.ifNo X2.here hx rfl (hb hby d20_4) rfl ((if0 _ _).trans (feq (by decide : ¬ ((1 : Int32) = (0 : Int32)))).1) ?_
    refine XS.aloadN X2.here hx rfl (hb hby d20_7) rfl rfl ?_
    exact kt
  obtain ⟨T4, X4, e4, st4⟩ := getF X2 hx hZ hown (host := "") (Or.inl (hw _ (own_w 37 rfl))) Via.refl eq2 FV (g := (mkF m 8 #[.val (.ref a1), .val (.int p2), .val (.int 0)] [(.ref a1)])) rfl rfl (hb hby d20_8)
  have pre5 : own_Go p e below S0 (T4.setTop (mkF m 14 #[.val (.ref a1), .val (.int p2), .val (.int 0)] [(.ref a1), (.int 0), (.int p2), (.ref vb)])) := by
    intro t kt
    refine pre3 t ?_
    refine st4 _ ?_
    refine XS.iloadN X4.here hx rfl (hb hby d20_11) rfl ?_
    refine XS.iloadN X4.here hx rfl (hb hby d20_12) rfl ?_
    refine XS.aloadN X4.here hx rfl (hb hby d20_13) rfl rfl ?_
    exact kt
  obtain ⟨cq6, kq6, qa6, qb6, qc6⟩ := isOf hZ e4 pE1
  obtain ⟨_, _, ⟨T6, L6, k6, n6⟩, -, X6, ⟨Lc6, hQ6, l6, y6, z6⟩, st6⟩ := X4.virtualBack hx (y := own_m15) (z := own_m15) hown (mvT hZ (hw _ (own_w 100 rfl))) (mvT hZ (hw _ (own_w 53 rfl))) (notFace_of_selects (args := #[]) (mvT hZ (hw _ (own_w 55 rfl)))) (mvT hZ (hw _ (own_w 55 rfl))) (mvT hZ (hw _ (own_w 54 rfl))) (by decide) (backOf (W := 3) (rmlenP1 l Z a0 hw [] a1 wC vb k1 h0 n0 Z0 O0 qC pE1 FC FV V1) hZ (hw _ (own_w 56 rfl)) (hw _ (own_w 11 rfl)) (by decide) (by decide)) qa6 qc6 (g := (mkF m 14 #[.val (.ref a1), .val (.int p2), .val (.int 0)] [(.ref a1), (.int 0), (.int p2), (.ref vb)])) rfl (by rw [hml]; rfl) (Steps.refl _) (argsL := []) (rest := [(.int 0), (.int p2), (.ref vb)]) (lenOf pd_18 rfl) rfl (by show 2 * 0 + _ ≤ _; exact Nat.le_of_eq rfl) (hb hby d20_14) (fun _ _ => ⟨rfl, e4, (by decide : 0 + 0 ≤ _), (by decide : 0 + 0 ≤ _)⟩)
  dsimp only [Pt.U, Pt.locs, Pt.cells, Pt.slots] at X6 l6 y6 z6 st6 hQ6
  subst l6 y6 z6
  obtain ⟨rfl, Nq6, eq6⟩ := hQ6
  have N6 := Fr.app N2 Nq6
  have pre7 : own_Go p e below S0 (T6.setTop (mkF m 17 #[.val (.ref a1), .val (.int p2), .val (.int 0)] [(.int 4), (.int 0), (.int p2), (.ref vb)])) := by
    intro t kt
    refine pre5 t ?_
    refine st6.trans ?_
    show Steps p.tables e below (T6.setTop (mkF m 17 #[.val (.ref a1), .val (.int p2), .val (.int 0)] [(.int 4), (.int 0), (.int p2), (.ref vb)])) _
    exact kt
  obtain ⟨_, _, ⟨T8, L8, k8, n8⟩, -, X8, ⟨Lc8, hQ8, l8, y8, z8⟩, st8⟩ := Jvm.LawKit.callS X6 hx (y := own_m18) hown (mvT hZ (hw _ (own_w 101 rfl))) (mvT hZ (hw _ (own_w 102 rfl))) (mvT hZ (hw _ (own_w 74 rfl))) (mvT hZ (hw _ (own_w 103 rfl))) (by decide) (backOf (W := 0) (rmiof1 l Z a0 hw [] vb p2 k1 h0 n0 Z0 V1) hZ (hw _ (own_w 103 rfl)) (hw _ (own_w 74 rfl)) (by decide) (by decide)) (g := (mkF m 17 #[.val (.ref a1), .val (.int p2), .val (.int 0)] [(.int 4), (.int 0), (.int p2), (.ref vb)])) rfl (by rw [hml]; rfl) (argsL := [(.ref vb), (.int p2), (.int 0), (.int 4)]) (rest := []) (lenOf pd_17 rfl) rfl (by show 2 * 0 + _ ≤ _; exact Nat.le_of_eq rfl) (hb hby d20_17) (fun _ _ => ⟨rfl, eq6, (by decide : 0 + 0 ≤ _), (by decide : 0 + 0 ≤ _)⟩)
  dsimp only [Pt.U, Pt.locs, Pt.cells, Pt.slots] at X8 l8 y8 z8 st8 hQ8
  subst l8 y8 z8
  obtain ⟨rfl, Nq8, eq8⟩ := hQ8
  have N8 := Fr.app N6 Nq8
  have pre9 : own_Go p e below S0 (T8.setTop (mkF m 36 #[.val (.ref a1), .val (.int p2), .val (.int 0)] [(.int (own_iof1 p2))])) := by
    intro t kt
    refine pre7 t ?_
    refine st8 _ ?_
    show Steps p.tables e below (T8.setTop (mkF m 20 #[.val (.ref a1), .val (.int p2), .val (.int 0)] [(.int (own_iof1 p2))])) _
    refine XS.goto X8.here hx rfl (pc0 := 20) (pc' := 36) rfl (hb hby d20_20) (by decide) (by decide) ?_
    exact kt
  obtain ⟨fs, hr, hrun, hended, hW, hsame⟩ := X8.leave (v := some (.int (own_iof1 p2))) (fun h => by rw [Bd.returns] at h; cases h)
  refine ⟨_, _, fin _ (pre9 _ ?_), hrun, hended, _, _, rfl, ?_, ⟨_, rfl⟩, hW, hsame.mono (by decide) (by decide)⟩
  · exact retI X8 hx Bd.returns (hb hby d20_36) hr
  · show Qio2_1 Z a1 p2 wC vb k1 h0 n0 _ T8.heap _
    rw [eq8]
    exact ⟨rfl, N8, rfl⟩

theorem ef_io1_1 (m : MethodId) (x0 : Addr) (x1 : Int32) : entryFrame m #[(.ref x0), (.int x1)] 2 = mkF m 0 #[.val (.ref x0), .val (.int x1)] [] := by first | (simp [entryFrame, mkF, argsToLocals, Value.category]; done) | rfl
def Qio1_1 (Z : State) (a1 : Addr) (p2 : Int32) (wC : Int32) (vb : Addr) (k1 : ClassId) (h0 : Heap) (n0 : Nat) (v : Option Value) (h : Heap) (L : List Loc) : Prop := v = (some (.int (own_iof1 p2))) ∧ Fr n0 L ∧ h = h0
set_option maxRecDepth 65536 in
set_option maxHeartbeats 40000000 in
theorem rmio1_1 (l : Launch) (Z : State) (a0 : Array Value) (hw : ∀ d ∈ tables_1, d.before a0 Z = true) (ws : List Jvm.Cond) (a1 : Addr) (p2 : Int32) (wC : Int32) (vb : Addr) (k1 : ClassId) (h0 : Heap) (n0 : Nat) (Z0 : n0 ≤ h0.size) (O0 : Old Z n0 h0) (qC : (own_SC Z wC)) (pE1 : Exa Z h0 a1 "java/lang/String") (FC : Fld Z h0 a1 "java/lang/String" "coder" "B" (.int 0)) (FV : Fld Z h0 a1 "java/lang/String" "value" "[B" (.ref vb)) (V1 : Arv Z h0 vb k1 .byte (4 : Int32) [(.int 46), (.int 95), (.int 45), (.int 58)] (.int 0)) :
    MetFree l own_m11 (head1 (Jvm.Cond.code own_m11 jdk_42_method_79_code 2 (some .int) :: ws) (own_r 3 0 0 46)) (fun a U => a = #[(.ref a1), (.int p2)] ∧ Z.Warmed39 U.vm ∧ U.heap = h0) (fun _ _ _ _ _ => True) (fun _ U o U' => ∃ v L, o = .returned v ∧ Qio1_1 Z a1 p2 wC vb k1 h0 n0 v U'.heap L ∧ FrameEnd U o U' L (own_r 3 0 0 46).cells (own_r 3 0 0 46).slots) := by
  refine MetFree.of_bodySF (plainFor_of_name pn_19) hisR ?_
  intro p e s m args below meth c s₁ Bd hml0 hP hK
  obtain ⟨rfl, hZ, hh⟩ := hP
  have hx := Bd.exec
  have hby := Bd.bytes
  have hml : c.maxLocals = 2 := hml0
  have hown0 := findClass_of_methodNamed Bd.named
  have hown : s.vm.findClass "java/lang/String" = some m.cls := hown0
  have hnm := (name_of_methodNamed Bd.named Bd.method).1
  have X0 : Stand p l e (own_r 3 0 0 46) s m #[(.ref a1), (.int p2)] below meth c s₁ [] 0 0 := Stand.of_body Bd
  have e0 : s₁.heap = h0 := by rw [← hh, Bd.state]; rfl
  have N0 := Fr.nil n0
  obtain ⟨S0, hS0⟩ : ∃ z, z = s₁.setTop (entryFrame m #[(.ref a1), (.int p2)] 2) := ⟨_, rfl⟩
  have pre0 : own_Go p e below S0 (s₁.setTop (mkF m 0 #[.val (.ref a1), .val (.int p2)] [])) := fun t k => by rw [hS0]; exact castTop (ef_io1_1 m a1 p2) k
  have fin : ∀ t, Steps p.tables e below S0 t → Steps p.tables e below (s₁.setTop (entryFrame m #[(.ref a1), (.int p2)] 2)) t := fun t k => by rw [hS0] at k; exact k
  have pre1 : own_Go p e below S0 (s₁.setTop (mkF m 3 #[.val (.ref a1), .val (.int p2)] [(.int 0), (.int p2), (.ref a1)])) := by
    intro t kt
    refine pre0 t ?_
    refine XS.aloadN X0.here hx rfl (hb hby d19_0) rfl rfl ?_
    refine XS.iloadN X0.here hx rfl (hb hby d19_1) rfl ?_
    refine XS.iconst X0.here hx rfl (hb hby d19_2) ?_
    exact kt
  obtain ⟨cq2, kq2, qa2, qb2, qc2⟩ := isOf hZ e0 pE1
  obtain ⟨_, _, ⟨T2, L2, k2, n2⟩, -, X2, ⟨Lc2, hQ2, l2, y2, z2⟩, st2⟩ := X0.virtualBack hx (y := own_m12) (z := own_m12) hown (mvT hZ (hw _ (own_w 95 rfl))) (mvT hZ (hw _ (own_w 96 rfl))) (notFace_of_selects (args := #[]) (mvT hZ (hw _ (own_w 98 rfl)))) (mvT hZ (hw _ (own_w 98 rfl))) (mvT hZ (hw _ (own_w 97 rfl))) (by decide) (backOf (W := 0) (rmio2_1 l Z a0 hw [] a1 p2 wC vb k1 h0 n0 Z0 O0 qC pE1 FC FV V1) hZ (hw _ (own_w 99 rfl)) (hw _ (own_w 11 rfl)) (by decide) (by decide)) qa2 qc2 (g := (mkF m 3 #[.val (.ref a1), .val (.int p2)] [(.int 0), (.int p2), (.ref a1)])) rfl (by rw [hml]; rfl) (Steps.refl _) (argsL := [(.int p2), (.int 0)]) (rest := []) (lenOf pd_16 rfl) rfl (by show 2 * 0 + _ ≤ _; exact Nat.le_of_eq rfl) (hb hby d19_3) (fun _ _ => ⟨rfl, e0, (by decide : 0 + 0 ≤ _), (by decide : 0 + 0 ≤ _)⟩)
  dsimp only [Pt.U, Pt.locs, Pt.cells, Pt.slots] at X2 l2 y2 z2 st2 hQ2
  subst l2 y2 z2
  obtain ⟨rfl, Nq2, eq2⟩ := hQ2
  have N2 := Fr.app N0 Nq2
  have pre3 : own_Go p e below S0 (T2.setTop (mkF m 6 #[.val (.ref a1), .val (.int p2)] [(.int (own_iof1 p2))])) := by
    intro t kt
    refine pre1 t ?_
    refine st2.trans ?_
    show Steps p.tables e below (T2.setTop (mkF m 6 #[.val (.ref a1), .val (.int p2)] [(.int (own_iof1 p2))])) _
    exact kt
  obtain ⟨fs, hr, hrun, hended, hW, hsame⟩ := X2.leave (v := some (.int (own_iof1 p2))) (fun h => by rw [Bd.returns] at h; cases h)
  refine ⟨_, _, fin _ (pre3 _ ?_), hrun, hended, _, _, rfl, ?_, ⟨_, rfl⟩, hW, hsame.mono (by decide) (by decide)⟩
  · exact retI X2 hx Bd.returns (hb hby d19_6) hr
  · show Qio1_1 Z a1 p2 wC vb k1 h0 n0 _ T2.heap _
    rw [eq2]
    exact ⟨rfl, N2, rfl⟩

theorem ef_idc1 (m : MethodId) (x0 : Addr) (x1 : Int32) : entryFrame m #[(.ref x0), (.int x1)] 2 = mkF m 0 #[.val (.ref x0), .val (.int x1)] [] := by first | (simp [entryFrame, mkF, argsToLocals, Value.category]; done) | rfl
def own_id1 (p2 : Int32) : Int32 := (if (¬ p2 < (97 : Int32) ∧ ¬ (122 : Int32) < p2) then (1 : Int32) else (if (¬ p2 < (65 : Int32) ∧ ¬ (90 : Int32) < p2) then (1 : Int32) else (if (¬ p2 < (48 : Int32) ∧ ¬ (57 : Int32) < p2) then (1 : Int32) else (if (own_iof1 p2) < (0 : Int32) then (0 : Int32) else (1 : Int32)))))
def Qidc1 (Z : State) (a1 : Addr) (p2 : Int32) (wC : Int32) (pa : Addr) (vb : Addr) (k1 : ClassId) (h0 : Heap) (n0 : Nat) (v : Option Value) (h : Heap) (L : List Loc) : Prop := v = (some (.int (own_id1 p2))) ∧ Fr n0 L ∧ h = h0
set_option maxRecDepth 65536 in
set_option maxHeartbeats 40000000 in
theorem rmidc1 (l : Launch) (Z : State) (a0 : Array Value) (hw : ∀ d ∈ tables_1, d.before a0 Z = true) (ws : List Jvm.Cond) (a1 : Addr) (p2 : Int32) (wC : Int32) (pa : Addr) (vb : Addr) (k1 : ClassId) (h0 : Heap) (n0 : Nat) (Z0 : n0 ≤ h0.size) (O0 : Old Z n0 h0) (qC : (own_SC Z wC)) (pE1 : Exa Z h0 a1 "com/example/backplane/backplane/IdSyntax") (pF1 : Fld Z h0 a1 "com/example/backplane/backplane/IdSyntax" "punctuation" "Ljava/lang/String;" (.ref pa)) (pE2 : Exa Z h0 pa "java/lang/String") (FC : Fld Z h0 pa "java/lang/String" "coder" "B" (.int 0)) (FV : Fld Z h0 pa "java/lang/String" "value" "[B" (.ref vb)) (V1 : Arv Z h0 vb k1 .byte (4 : Int32) [(.int 46), (.int 95), (.int 45), (.int 58)] (.int 0)) :
    MetFree l own_m0 (head1 (Jvm.Cond.code own_m0 prog_8_method_6_code 2 (some .boolean) :: ws) (own_r 4 0 0 59)) (fun a U => a = #[(.ref a1), (.int p2)] ∧ Z.Warmed39 U.vm ∧ U.heap = h0) (fun _ _ _ _ _ => True) (fun _ U o U' => ∃ v L, o = .returned v ∧ Qidc1 Z a1 p2 wC pa vb k1 h0 n0 v U'.heap L ∧ FrameEnd U o U' L (own_r 4 0 0 59).cells (own_r 4 0 0 59).slots) := by
  refine MetFree.of_bodySF (plainFor_of_name pn_18) hisR ?_
  intro p e s m args below meth c s₁ Bd hml0 hP hK
  obtain ⟨rfl, hZ, hh⟩ := hP
  have hx := Bd.exec
  have hby := Bd.bytes
  have hml : c.maxLocals = 2 := hml0
  have hown0 := findClass_of_methodNamed Bd.named
  have hown : s.vm.findClass "com/example/backplane/backplane/IdSyntax" = some m.cls := hown0
  have hnm := (name_of_methodNamed Bd.named Bd.method).1
  have X0 : Stand p l e (own_r 4 0 0 59) s m #[(.ref a1), (.int p2)] below meth c s₁ [] 0 0 := Stand.of_body Bd
  have e0 : s₁.heap = h0 := by rw [← hh, Bd.state]; rfl
  have N0 := Fr.nil n0
  obtain ⟨S0, hS0⟩ : ∃ z, z = s₁.setTop (entryFrame m #[(.ref a1), (.int p2)] 2) := ⟨_, rfl⟩
  have pre0 : own_Go p e below S0 (s₁.setTop (mkF m 0 #[.val (.ref a1), .val (.int p2)] [])) := fun t k => by rw [hS0]; exact castTop (ef_idc1 m a1 p2) k
  have fin : ∀ t, Steps p.tables e below S0 t → Steps p.tables e below (s₁.setTop (entryFrame m #[(.ref a1), (.int p2)] 2)) t := fun t k => by rw [hS0] at k; exact k
  by_cases hA1 : (¬ p2 < (97 : Int32) ∧ ¬ (122 : Int32) < p2)
  · have pre2 : own_Go p e below S0 (s₁.setTop (mkF m 52 #[.val (.ref a1), .val (.int p2)] [(.int 1)])) := by
      intro t kt
      refine pre0 t ?_
      refine XS.iloadN X0.here hx rfl (hb hby d18_0) rfl ?_
      refine XS.bipush X0.here hx rfl (hb hby d18_1) ?_
      refine XS.icmpNo X0.here hx rfl (hb hby d18_3) rfl (flt hA1.1).1 ?_
      refine XS.iloadN X0.here hx rfl (hb hby d18_6) rfl ?_
      refine XS.bipush X0.here hx rfl (hb hby d18_7) ?_
      refine XS.icmpYes X0.here hx rfl (pc0 := 9) (pc' := 47) rfl (hb hby d18_9) rfl (flt hA1.2).2.2.2 (by decide) (by decide) ?_
      show Steps p.tables e below (s₁.setTop (mkF m 47 #[.val (.ref a1), .val (.int p2)] [])) _
      refine XS.iconst X0.here hx rfl (hb hby d18_47) ?_
      refine XS.goto X0.here hx rfl (pc0 := 48) (pc' := 52) rfl (hb hby d18_48) (by decide) (by decide) ?_
      exact kt
    obtain ⟨fs, hr, hrun, hended, hW, hsame⟩ := X0.leave (v := some (.int 1)) (fun h => by rw [Bd.returns] at h; cases h)
    refine ⟨_, _, fin _ (pre2 _ ?_), hrun, hended, _, _, rfl, ?_, ⟨_, rfl⟩, hW, hsame.mono (by decide) (by decide)⟩
    · exact retN X0 hx (t := .boolean) Bd.returns (by simp) (hb hby d18_52) hr
    · show Qidc1 Z a1 p2 wC pa vb k1 h0 n0 _ s₁.heap _
      rw [e0]
      exact ⟨(by show some _ = some _; rw [own_id1, if_pos hA1]), N0, rfl⟩
  · have pre3 : own_Go p e below S0 (s₁.setTop (mkF m 12 #[.val (.ref a1), .val (.int p2)] [])) := by
      have pre5 : own_Go p e below S0 (s₁.setTop (mkF m 3 #[.val (.ref a1), .val (.int p2)] [(.int 97), (.int p2)])) := by
        intro t kt
        refine pre0 t ?_
        refine XS.iloadN X0.here hx rfl (hb hby d18_0) rfl ?_
        refine XS.bipush X0.here hx rfl (hb hby d18_1) ?_
        exact kt
      by_cases hc4 : p2 < (97 : Int32)
      · have pre6 : own_Go p e below S0 (s₁.setTop (mkF m 12 #[.val (.ref a1), .val (.int p2)] [])) := by
          intro t kt
          refine pre5 t ?_
          refine XS.icmpYes X0.here hx rfl (pc0 := 3) (pc' := 12) rfl (hb hby d18_3) rfl (tlt hc4).1 (by decide) (by decide) ?_
          exact kt
        exact pre6
      · have pre7 : own_Go p e below S0 (s₁.setTop (mkF m 12 #[.val (.ref a1), .val (.int p2)] [])) := by
          intro t kt
          refine pre5 t ?_
          refine XS.icmpNo X0.here hx rfl (hb hby d18_3) rfl (flt hc4).1 ?_
          refine XS.iloadN X0.here hx rfl (hb hby d18_6) rfl ?_
          refine XS.bipush X0.here hx rfl (hb hby d18_7) ?_
          refine XS.icmpNo X0.here hx rfl (hb hby d18_9) rfl (tlt (Decidable.byContradiction fun q => hA1 ⟨hc4, q⟩)).2.2.2 ?_
          exact kt
        exact pre7
    by_cases hA8 : (¬ p2 < (65 : Int32) ∧ ¬ (90 : Int32) < p2)
    · have pre9 : own_Go p e below S0 (s₁.setTop (mkF m 52 #[.val (.ref a1), .val (.int p2)] [(.int 1)])) := by
        intro t kt
        refine pre3 t ?_
        refine XS.iloadN X0.here hx rfl (hb hby d18_12) rfl ?_
        refine XS.bipush X0.here hx rfl (hb hby d18_13) ?_
        refine XS.icmpNo X0.here hx rfl (hb hby d18_15) rfl (flt hA8.1).1 ?_
        refine XS.iloadN X0.here hx rfl (hb hby d18_18) rfl ?_
        refine XS.bipush X0.here hx rfl (hb hby d18_19) ?_
        refine XS.icmpYes X0.here hx rfl (pc0 := 21) (pc' := 47) rfl (hb hby d18_21) rfl (flt hA8.2).2.2.2 (by decide) (by decide) ?_
        show Steps p.tables e below (s₁.setTop (mkF m 47 #[.val (.ref a1), .val (.int p2)] [])) _
        refine XS.iconst X0.here hx rfl (hb hby d18_47) ?_
        refine XS.goto X0.here hx rfl (pc0 := 48) (pc' := 52) rfl (hb hby d18_48) (by decide) (by decide) ?_
        exact kt
      obtain ⟨fs, hr, hrun, hended, hW, hsame⟩ := X0.leave (v := some (.int 1)) (fun h => by rw [Bd.returns] at h; cases h)
      refine ⟨_, _, fin _ (pre9 _ ?_), hrun, hended, _, _, rfl, ?_, ⟨_, rfl⟩, hW, hsame.mono (by decide) (by decide)⟩
      · exact retN X0 hx (t := .boolean) Bd.returns (by simp) (hb hby d18_52) hr
      · show Qidc1 Z a1 p2 wC pa vb k1 h0 n0 _ s₁.heap _
        rw [e0]
        exact ⟨(by show some _ = some _; rw [own_id1, if_neg hA1, if_pos hA8]), N0, rfl⟩
    · have pre10 : own_Go p e below S0 (s₁.setTop (mkF m 24 #[.val (.ref a1), .val (.int p2)] [])) := by
        have pre12 : own_Go p e below S0 (s₁.setTop (mkF m 15 #[.val (.ref a1), .val (.int p2)] [(.int 65), (.int p2)])) := by
          intro t kt
          refine pre3 t ?_
          refine XS.iloadN X0.here hx rfl (hb hby d18_12) rfl ?_
          refine XS.bipush X0.here hx rfl (hb hby d18_13) ?_
          exact kt
        by_cases hc11 : p2 < (65 : Int32)
        · have pre13 : own_Go p e below S0 (s₁.setTop (mkF m 24 #[.val (.ref a1), .val (.int p2)] [])) := by
            intro t kt
            refine pre12 t ?_
            refine XS.icmpYes X0.here hx rfl (pc0 := 15) (pc' := 24) rfl (hb hby d18_15) rfl (tlt hc11).1 (by decide) (by decide) ?_
            exact kt
          exact pre13
        · have pre14 : own_Go p e below S0 (s₁.setTop (mkF m 24 #[.val (.ref a1), .val (.int p2)] [])) := by
            intro t kt
            refine pre12 t ?_
            refine XS.icmpNo X0.here hx rfl (hb hby d18_15) rfl (flt hc11).1 ?_
            refine XS.iloadN X0.here hx rfl (hb hby d18_18) rfl ?_
            refine XS.bipush X0.here hx rfl (hb hby d18_19) ?_
            refine XS.icmpNo X0.here hx rfl (hb hby d18_21) rfl (tlt (Decidable.byContradiction fun q => hA8 ⟨hc11, q⟩)).2.2.2 ?_
            exact kt
          exact pre14
      by_cases hA15 : (¬ p2 < (48 : Int32) ∧ ¬ (57 : Int32) < p2)
      · have pre16 : own_Go p e below S0 (s₁.setTop (mkF m 52 #[.val (.ref a1), .val (.int p2)] [(.int 1)])) := by
          intro t kt
          refine pre10 t ?_
          refine XS.iloadN X0.here hx rfl (hb hby d18_24) rfl ?_
          refine XS.bipush X0.here hx rfl (hb hby d18_25) ?_
          refine XS.icmpNo X0.here hx rfl (hb hby d18_27) rfl (flt hA15.1).1 ?_
          refine XS.iloadN X0.here hx rfl (hb hby d18_30) rfl ?_
          refine XS.bipush X0.here hx rfl (hb hby d18_31) ?_
          refine XS.icmpYes X0.here hx rfl (pc0 := 33) (pc' := 47) rfl (hb hby d18_33) rfl (flt hA15.2).2.2.2 (by decide) (by decide) ?_
          show Steps p.tables e below (s₁.setTop (mkF m 47 #[.val (.ref a1), .val (.int p2)] [])) _
          refine XS.iconst X0.here hx rfl (hb hby d18_47) ?_
          refine XS.goto X0.here hx rfl (pc0 := 48) (pc' := 52) rfl (hb hby d18_48) (by decide) (by decide) ?_
          exact kt
        obtain ⟨fs, hr, hrun, hended, hW, hsame⟩ := X0.leave (v := some (.int 1)) (fun h => by rw [Bd.returns] at h; cases h)
        refine ⟨_, _, fin _ (pre16 _ ?_), hrun, hended, _, _, rfl, ?_, ⟨_, rfl⟩, hW, hsame.mono (by decide) (by decide)⟩
        · exact retN X0 hx (t := .boolean) Bd.returns (by simp) (hb hby d18_52) hr
        · show Qidc1 Z a1 p2 wC pa vb k1 h0 n0 _ s₁.heap _
          rw [e0]
          exact ⟨(by show some _ = some _; rw [own_id1, if_neg hA1, if_neg hA8, if_pos hA15]), N0, rfl⟩
      · have pre17 : own_Go p e below S0 (s₁.setTop (mkF m 36 #[.val (.ref a1), .val (.int p2)] [])) := by
          have pre19 : own_Go p e below S0 (s₁.setTop (mkF m 27 #[.val (.ref a1), .val (.int p2)] [(.int 48), (.int p2)])) := by
            intro t kt
            refine pre10 t ?_
            refine XS.iloadN X0.here hx rfl (hb hby d18_24) rfl ?_
            refine XS.bipush X0.here hx rfl (hb hby d18_25) ?_
            exact kt
          by_cases hc18 : p2 < (48 : Int32)
          · have pre20 : own_Go p e below S0 (s₁.setTop (mkF m 36 #[.val (.ref a1), .val (.int p2)] [])) := by
              intro t kt
              refine pre19 t ?_
              refine XS.icmpYes X0.here hx rfl (pc0 := 27) (pc' := 36) rfl (hb hby d18_27) rfl (tlt hc18).1 (by decide) (by decide) ?_
              exact kt
            exact pre20
          · have pre21 : own_Go p e below S0 (s₁.setTop (mkF m 36 #[.val (.ref a1), .val (.int p2)] [])) := by
              intro t kt
              refine pre19 t ?_
              refine XS.icmpNo X0.here hx rfl (hb hby d18_27) rfl (flt hc18).1 ?_
              refine XS.iloadN X0.here hx rfl (hb hby d18_30) rfl ?_
              refine XS.bipush X0.here hx rfl (hb hby d18_31) ?_
              refine XS.icmpNo X0.here hx rfl (hb hby d18_33) rfl (tlt (Decidable.byContradiction fun q => hA15 ⟨hc18, q⟩)).2.2.2 ?_
              exact kt
            exact pre21
        have pre22 : own_Go p e below S0 (s₁.setTop (mkF m 37 #[.val (.ref a1), .val (.int p2)] [(.ref a1)])) := by
          intro t kt
          refine pre17 t ?_
          refine XS.aloadN X0.here hx rfl (hb hby d18_36) rfl rfl ?_
          exact kt
        obtain ⟨T23, X23, e23, st23⟩ := getF X0 hx hZ hown (host := "") (Or.inl (hw _ (own_w 88 rfl))) Via.refl e0 pF1 (g := (mkF m 37 #[.val (.ref a1), .val (.int p2)] [(.ref a1)])) rfl rfl (hb hby d18_37)
        have pre24 : own_Go p e below S0 (T23.setTop (mkF m 41 #[.val (.ref a1), .val (.int p2)] [(.int p2), (.ref pa)])) := by
          intro t kt
          refine pre22 t ?_
          refine st23 _ ?_
          refine XS.iloadN X23.here hx rfl (hb hby d18_40) rfl ?_
          exact kt
        obtain ⟨cq25, kq25, qa25, qb25, qc25⟩ := isOf hZ e23 pE2
        obtain ⟨_, _, ⟨T25, L25, k25, n25⟩, -, X25, ⟨Lc25, hQ25, l25, y25, z25⟩, st25⟩ := X23.virtualBack hx (y := own_m11) (z := own_m11) hown (mvT hZ (hw _ (own_w 90 rfl))) (mvT hZ (hw _ (own_w 91 rfl))) (notFace_of_selects (args := #[]) (mvT hZ (hw _ (own_w 93 rfl)))) (mvT hZ (hw _ (own_w 93 rfl))) (mvT hZ (hw _ (own_w 92 rfl))) (by decide) (backOf (W := 0) (rmio1_1 l Z a0 hw [] pa p2 wC vb k1 h0 n0 Z0 O0 qC pE2 FC FV V1) hZ (hw _ (own_w 94 rfl)) (hw _ (own_w 11 rfl)) (by decide) (by decide)) qa25 qc25 (g := (mkF m 41 #[.val (.ref a1), .val (.int p2)] [(.int p2), (.ref pa)])) rfl (by rw [hml]; rfl) (Steps.refl _) (argsL := [(.int p2)]) (rest := []) (lenOf pd_1 rfl) rfl (by show 2 * 0 + _ ≤ _; exact Nat.le_of_eq rfl) (hb hby d18_41) (fun _ _ => ⟨rfl, e23, (by decide : 0 + 0 ≤ _), (by decide : 0 + 0 ≤ _)⟩)
        dsimp only [Pt.U, Pt.locs, Pt.cells, Pt.slots] at X25 l25 y25 z25 st25 hQ25
        subst l25 y25 z25
        obtain ⟨rfl, Nq25, eq25⟩ := hQ25
        have N25 := Fr.app N0 Nq25
        have pre27 : own_Go p e below S0 (T25.setTop (mkF m 44 #[.val (.ref a1), .val (.int p2)] [(.int (own_iof1 p2))])) := by
          intro t kt
          refine pre24 t ?_
          refine st25.trans ?_
          show Steps p.tables e below (T25.setTop (mkF m 44 #[.val (.ref a1), .val (.int p2)] [(.int (own_iof1 p2))])) _
          exact kt
        by_cases hc26 : (own_iof1 p2) < (0 : Int32)
        · have pre28 : own_Go p e below S0 (T25.setTop (mkF m 52 #[.val (.ref a1), .val (.int p2)] [(.int 0)])) := by
            intro t kt
            refine pre27 t ?_
            refine XS.ifYes X25.here hx rfl (pc0 := 44) (pc' := 51) rfl (hb hby d18_44) rfl ((if0 _ _).trans (tlt hc26).1) (by decide) (by decide) ?_
            refine XS.iconst X25.here hx rfl (hb hby d18_51) ?_
            exact kt
          obtain ⟨fs, hr, hrun, hended, hW, hsame⟩ := X25.leave (v := some (.int 0)) (fun h => by rw [Bd.returns] at h; cases h)
          refine ⟨_, _, fin _ (pre28 _ ?_), hrun, hended, _, _, rfl, ?_, ⟨_, rfl⟩, hW, hsame.mono (by decide) (by decide)⟩
          · exact retN X25 hx (t := .boolean) Bd.returns (by simp) (hb hby d18_52) hr
          · show Qidc1 Z a1 p2 wC pa vb k1 h0 n0 _ T25.heap _
            rw [eq25]
            exact ⟨(by show some _ = some _; rw [own_id1, if_neg hA1, if_neg hA8, if_neg hA15, if_pos hc26]), N25, rfl⟩
        · have pre29 : own_Go p e below S0 (T25.setTop (mkF m 52 #[.val (.ref a1), .val (.int p2)] [(.int 1)])) := by
            intro t kt
            refine pre27 t ?_
            refine XS.ifNo X25.here hx rfl (hb hby d18_44) rfl ((if0 _ _).trans (flt hc26).1) ?_
            refine XS.iconst X25.here hx rfl (hb hby d18_47) ?_
            refine XS.goto X25.here hx rfl (pc0 := 48) (pc' := 52) rfl (hb hby d18_48) (by decide) (by decide) ?_
            exact kt
          obtain ⟨fs, hr, hrun, hended, hW, hsame⟩ := X25.leave (v := some (.int 1)) (fun h => by rw [Bd.returns] at h; cases h)
          refine ⟨_, _, fin _ (pre29 _ ?_), hrun, hended, _, _, rfl, ?_, ⟨_, rfl⟩, hW, hsame.mono (by decide) (by decide)⟩
          · exact retN X25 hx (t := .boolean) Bd.returns (by simp) (hb hby d18_52) hr
          · show Qidc1 Z a1 p2 wC pa vb k1 h0 n0 _ T25.heap _
            rw [eq25]
            exact ⟨(by show some _ = some _; rw [own_id1, if_neg hA1, if_neg hA8, if_neg hA15, if_neg hc26]), N25, rfl⟩

theorem own_iofV1 (c : Int32) : own_iof1 c < (0 : Int32) ↔ ¬ (c = 46 ∨ c = 95 ∨ c = 45 ∨ c = 58) := by
  have b := c_i2b c
  have f : ∀ a b : Int32, a = b ↔ a.toInt = b.toInt := fun a b => Int32.toInt_inj.symm
  have g : ∀ a b : Int32, a < b ↔ a.toInt < b.toInt := fun a b => Int32.lt_iff_toInt_lt
  have e0 : own_can c = 0 ↔ ¬ (0 ≤ c.toInt ∧ c.toInt ≤ 255) := by
    have z0 : (0 : Int32).toInt = 0 := rfl
    have z1 : (255 : Int32).toInt = 255 := rfl
    unfold own_can
    split
    · rename_i h; rw [g, z0] at h; simp; omega
    · rename_i h; rw [g, z0] at h
      split
      · rename_i h2; rw [g, z1] at h2; simp; omega
      · rename_i h2; rw [g, z1] at h2; simp; omega
  unfold own_iof1
  split
  · rename_i h
    rw [e0] at h
    simp only [f, show (46 : Int32).toInt = 46 from rfl, show (95 : Int32).toInt = 95 from rfl, show (45 : Int32).toInt = 45 from rfl, show (58 : Int32).toInt = 58 from rfl]
    constructor
    · intro _; omega
    · intro _; decide
  · rename_i h
    rw [e0] at h
    unfold own_ioc1
    simp only [f, show (46 : Int32).toInt = 46 from rfl, show (95 : Int32).toInt = 95 from rfl, show (45 : Int32).toInt = 45 from rfl, show (58 : Int32).toInt = 58 from rfl]
    repeat' split
    all_goals (constructor <;> intro h9)
    all_goals first | omega | (exact absurd h9 (by decide)) | decide

theorem own_idE1 (c : Int32) : own_al 1 c = own_id1 c := by
  have f : ∀ a b : Int32, a = b ↔ a.toInt = b.toInt := fun a b => Int32.toInt_inj.symm
  have g : ∀ a b : Int32, a < b ↔ a.toInt < b.toInt := fun a b => Int32.lt_iff_toInt_lt
  unfold own_al own_id1
  simp only [own_iofV1]
  simp only [f, g, show (0 : Int32).toInt = 0 from rfl, show (1 : Int32).toInt = 1 from rfl, show (2 : Int32).toInt = 2 from rfl, show (45 : Int32).toInt = 45 from rfl, show (46 : Int32).toInt = 46 from rfl, show (48 : Int32).toInt = 48 from rfl, show (57 : Int32).toInt = 57 from rfl, show (58 : Int32).toInt = 58 from rfl, show (65 : Int32).toInt = 65 from rfl, show (90 : Int32).toInt = 90 from rfl, show (95 : Int32).toInt = 95 from rfl, show (97 : Int32).toInt = 97 from rfl, show (122 : Int32).toInt = 122 from rfl]
  repeat' split
  all_goals first | rfl | omega | (exact absurd trivial ‹_›) | simp_all

theorem ef_ioc2 (m : MethodId) (x0 : Addr) (x1 : Int32) : entryFrame m #[(.ref x0), (.int x1), (.int 0), (.int 2)] 6 = mkF m 0 #[.val (.ref x0), .val (.int x1), .val (.int 0), .val (.int 2), .unset, .unset] [] := by first | (simp [entryFrame, mkF, argsToLocals, Value.category]; done) | rfl
def own_ioc2 (p2 : Int32) : Int32 := (if (45 : Int32) = (p2.toInt8.toInt32) then (0 : Int32) else (if (95 : Int32) = (p2.toInt8.toInt32) then (1 : Int32) else (-1 : Int32)))
def Qioc2 (Z : State) (a1 : Addr) (p2 : Int32) (k1 : ClassId) (h0 : Heap) (n0 : Nat) (v : Option Value) (h : Heap) (L : List Loc) : Prop := v = (some (.int (own_ioc2 p2))) ∧ Fr n0 L ∧ h = h0
set_option maxRecDepth 65536 in
set_option maxHeartbeats 40000000 in
theorem rmioc2 (l : Launch) (Z : State) (a0 : Array Value) (hw : ∀ d ∈ tables_1, d.before a0 Z = true) (ws : List Jvm.Cond) (a1 : Addr) (p2 : Int32) (k1 : ClassId) (h0 : Heap) (n0 : Nat) (Z0 : n0 ≤ h0.size) (V1 : Arv Z h0 a1 k1 .byte (2 : Int32) [(.int 45), (.int 95)] (.int 0)) :
    MetFree l own_m19 (head1 (Jvm.Cond.code own_m19 jdk_43_method_23_code 6 (some .int) :: ws) (own_r 0 0 0 0)) (fun a U => a = #[(.ref a1), (.int p2), (.int 0), (.int 2)] ∧ Z.Warmed39 U.vm ∧ U.heap = h0) (fun _ _ _ _ _ => True) (fun _ U o U' => ∃ v L, o = .returned v ∧ Qioc2 Z a1 p2 k1 h0 n0 v U'.heap L ∧ FrameEnd U o U' L (own_r 0 0 0 0).cells (own_r 0 0 0 0).slots) := by
  refine MetFree.of_bodySF (plainFor_of_name pn_25) hisR ?_
  intro p e s m args below meth c s₁ Bd hml0 hP hK
  obtain ⟨rfl, hZ, hh⟩ := hP
  have hx := Bd.exec
  have hby := Bd.bytes
  have hml : c.maxLocals = 6 := hml0
  have hown0 := findClass_of_methodNamed Bd.named
  have hown : s.vm.findClass "java/lang/StringLatin1" = some m.cls := hown0
  have hnm := (name_of_methodNamed Bd.named Bd.method).1
  have X0 : Stand p l e (own_r 0 0 0 0) s m #[(.ref a1), (.int p2), (.int 0), (.int 2)] below meth c s₁ [] 0 0 := Stand.of_body Bd
  have e0 : s₁.heap = h0 := by rw [← hh, Bd.state]; rfl
  have N0 := Fr.nil n0
  obtain ⟨S0, hS0⟩ : ∃ z, z = s₁.setTop (entryFrame m #[(.ref a1), (.int p2), (.int 0), (.int 2)] 6) := ⟨_, rfl⟩
  have pre0 : own_Go p e below S0 (s₁.setTop (mkF m 0 #[.val (.ref a1), .val (.int p2), .val (.int 0), .val (.int 2), .unset, .unset] [])) := fun t k => by rw [hS0]; exact castTop (ef_ioc2 m a1 p2) k
  have fin : ∀ t, Steps p.tables e below S0 t → Steps p.tables e below (s₁.setTop (entryFrame m #[(.ref a1), (.int p2), (.int 0), (.int 2)] 6)) t := fun t k => by rw [hS0] at k; exact k
  have pre1 : own_Go p e below S0 (s₁.setTop (mkF m 16 #[.val (.ref a1), .val (.int p2), .val (.int 0), .val (.int 2), .val (.int (p2.toInt8.toInt32)), .val (.int 0)] [(.int 0), (.ref a1)])) := by
    intro t kt
    refine pre0 t ?_
    refine XS.iloadN X0.here hx rfl (hb hby d25_0) rfl ?_
    refine XS.i2b X0.here hx rfl (hb hby d25_1) rfl ?_
    refine XS.istore X0.here hx rfl (hb hby d25_2) rfl (l' := #[.val (.ref a1), .val (.int p2), .val (.int 0), .val (.int 2), .val (.int (p2.toInt8.toInt32)), .unset]) rfl ?_
    refine XS.iloadN X0.here hx rfl (hb hby d25_4) rfl ?_
    refine XS.istore X0.here hx rfl (hb hby d25_5) rfl (l' := #[.val (.ref a1), .val (.int p2), .val (.int 0), .val (.int 2), .val (.int (p2.toInt8.toInt32)), .val (.int 0)]) rfl ?_
    refine XS.iload X0.here hx rfl (hb hby d25_7) rfl ?_
    show Steps p.tables e below (s₁.setTop (mkF m 9 #[.val (.ref a1), .val (.int p2), .val (.int 0), .val (.int 2), .val (.int (p2.toInt8.toInt32)), .val (.int 0)] [(.int 0)])) _
    refine XS.iloadN X0.here hx rfl (hb hby d25_9) rfl ?_
    refine XS.icmpNo X0.here hx rfl (hb hby d25_10) rfl (tlt (by decide : (0 : Int32) < (2 : Int32))).2.1 ?_
    refine XS.aloadN X0.here hx rfl (hb hby d25_13) rfl rfl ?_
    refine XS.iload X0.here hx rfl (hb hby d25_14) rfl ?_
    exact kt
  obtain ⟨cl2, Ar2, -, Sz2, -, Hs2, -⟩ := id V1
  have hin2 : ¬ ((0 : Int32) < 0 ∨ cl2.slots.size ≤ ((0 : Int32)).toNatClampNeg) := inb_of Sz2 ⟨by decide, by decide⟩
  have pre4 : own_Go p e below S0 (s₁.setTop (mkF m 19 #[.val (.ref a1), .val (.int p2), .val (.int 0), .val (.int 2), .val (.int (p2.toInt8.toInt32)), .val (.int 0)] [(.int (p2.toInt8.toInt32)), (.int 45)])) := by
    intro t kt
    refine pre1 t ?_
    refine X0.baloadBytes hx (j := (0 : Int32)) (v := (.int 45)) (by rw [e0]; exact Ar2.1) (State.isArrayOf_alike hZ.alike Ar2.2.1) Ar2.2.2 hin2 (Hs2.at hin2 rfl) (g := (mkF m 16 #[.val (.ref a1), .val (.int p2), .val (.int 0), .val (.int 2), .val (.int (p2.toInt8.toInt32)), .val (.int 0)] [(.int 0), (.ref a1)])) rfl rfl (hb hby d25_16) _ ?_
    refine XS.iload X0.here hx rfl (hb hby d25_17) rfl ?_
    exact kt
  by_cases hc3 : (45 : Int32) = (p2.toInt8.toInt32)
  · have pre5 : own_Go p e below S0 (s₁.setTop (mkF m 24 #[.val (.ref a1), .val (.int p2), .val (.int 0), .val (.int 2), .val (.int (p2.toInt8.toInt32)), .val (.int 0)] [(.int 0)])) := by
      intro t kt
      refine pre4 t ?_
      refine XS.icmpNo X0.here hx rfl (hb hby d25_19) rfl (teq hc3).2 ?_
      refine XS.iload X0.here hx rfl (hb hby d25_22) rfl ?_
      exact kt
    obtain ⟨fs, hr, hrun, hended, hW, hsame⟩ := X0.leave (v := some (.int 0)) (fun h => by rw [Bd.returns] at h; cases h)
    refine ⟨_, _, fin _ (pre5 _ ?_), hrun, hended, _, _, rfl, ?_, ⟨_, rfl⟩, hW, hsame.mono (by decide) (by decide)⟩
    · exact retI X0 hx Bd.returns (hb hby d25_24) hr
    · show Qioc2 Z a1 p2 k1 h0 n0 _ s₁.heap _
      rw [e0]
      exact ⟨(by show some _ = some _; rw [own_ioc2, if_pos hc3]), N0, rfl⟩
  · have pre6 : own_Go p e below S0 (s₁.setTop (mkF m 16 #[.val (.ref a1), .val (.int p2), .val (.int 0), .val (.int 2), .val (.int (p2.toInt8.toInt32)), .val (.int 1)] [(.int 1), (.ref a1)])) := by
      intro t kt
      refine pre4 t ?_
      refine XS.icmpYes X0.here hx rfl (pc0 := 19) (pc' := 25) rfl (hb hby d25_19) rfl (feq hc3).2 (by decide) (by decide) ?_
      refine XS.iinc X0.here hx rfl (hb hby d25_25) rfl (l' := #[.val (.ref a1), .val (.int p2), .val (.int 0), .val (.int 2), .val (.int (p2.toInt8.toInt32)), .val (.int 1)]) rfl ?_
      refine XS.goto X0.here hx rfl (pc0 := 28) (pc' := 7) rfl (hb hby d25_28) (by decide) (by decide) ?_
      refine XS.iload X0.here hx rfl (hb hby d25_7) rfl ?_
      refine XS.iloadN X0.here hx rfl (hb hby d25_9) rfl ?_
      refine XS.icmpNo X0.here hx rfl (hb hby d25_10) rfl (tlt (by decide : (1 : Int32) < (2 : Int32))).2.1 ?_
      show Steps p.tables e below (s₁.setTop (mkF m 13 #[.val (.ref a1), .val (.int p2), .val (.int 0), .val (.int 2), .val (.int (p2.toInt8.toInt32)), .val (.int 1)] [])) _
      refine XS.aloadN X0.here hx rfl (hb hby d25_13) rfl rfl ?_
      refine XS.iload X0.here hx rfl (hb hby d25_14) rfl ?_
      exact kt
    obtain ⟨cl7, Ar7, -, Sz7, -, Hs7, -⟩ := id V1
    have hin7 : ¬ ((1 : Int32) < 0 ∨ cl7.slots.size ≤ ((1 : Int32)).toNatClampNeg) := inb_of Sz7 ⟨by decide, by decide⟩
    have pre9 : own_Go p e below S0 (s₁.setTop (mkF m 19 #[.val (.ref a1), .val (.int p2), .val (.int 0), .val (.int 2), .val (.int (p2.toInt8.toInt32)), .val (.int 1)] [(.int (p2.toInt8.toInt32)), (.int 95)])) := by
      intro t kt
      refine pre6 t ?_
      refine X0.baloadBytes hx (j := (1 : Int32)) (v := (.int 95)) (by rw [e0]; exact Ar7.1) (State.isArrayOf_alike hZ.alike Ar7.2.1) Ar7.2.2 hin7 (Hs7.at hin7 rfl) (g := (mkF m 16 #[.val (.ref a1), .val (.int p2), .val (.int 0), .val (.int 2), .val (.int (p2.toInt8.toInt32)), .val (.int 1)] [(.int 1), (.ref a1)])) rfl rfl (hb hby d25_16) _ ?_
      refine XS.iload X0.here hx rfl (hb hby d25_17) rfl ?_
      exact kt
    by_cases hc8 : (95 : Int32) = (p2.toInt8.toInt32)
    · have pre10 : own_Go p e below S0 (s₁.setTop (mkF m 24 #[.val (.ref a1), .val (.int p2), .val (.int 0), .val (.int 2), .val (.int (p2.toInt8.toInt32)), .val (.int 1)] [(.int 1)])) := by
        intro t kt
        refine pre9 t ?_
        refine XS.icmpNo X0.here hx rfl (hb hby d25_19) rfl (teq hc8).2 ?_
        refine XS.iload X0.here hx rfl (hb hby d25_22) rfl ?_
        exact kt
      obtain ⟨fs, hr, hrun, hended, hW, hsame⟩ := X0.leave (v := some (.int 1)) (fun h => by rw [Bd.returns] at h; cases h)
      refine ⟨_, _, fin _ (pre10 _ ?_), hrun, hended, _, _, rfl, ?_, ⟨_, rfl⟩, hW, hsame.mono (by decide) (by decide)⟩
      · exact retI X0 hx Bd.returns (hb hby d25_24) hr
      · show Qioc2 Z a1 p2 k1 h0 n0 _ s₁.heap _
        rw [e0]
        exact ⟨(by show some _ = some _; rw [own_ioc2, if_neg hc3, if_pos hc8]), N0, rfl⟩
    · have pre11 : own_Go p e below S0 (s₁.setTop (mkF m 32 #[.val (.ref a1), .val (.int p2), .val (.int 0), .val (.int 2), .val (.int (p2.toInt8.toInt32)), .val (.int 2)] [(.int (-1 : Int32))])) := by
        intro t kt
        refine pre9 t ?_
        refine XS.icmpYes X0.here hx rfl (pc0 := 19) (pc' := 25) rfl (hb hby d25_19) rfl (feq hc8).2 (by decide) (by decide) ?_
        refine XS.iinc X0.here hx rfl (hb hby d25_25) rfl (l' := #[.val (.ref a1), .val (.int p2), .val (.int 0), .val (.int 2), .val (.int (p2.toInt8.toInt32)), .val (.int 2)]) rfl ?_
        refine XS.goto X0.here hx rfl (pc0 := 28) (pc' := 7) rfl (hb hby d25_28) (by decide) (by decide) ?_
        refine XS.iload X0.here hx rfl (hb hby d25_7) rfl ?_
        refine XS.iloadN X0.here hx rfl (hb hby d25_9) rfl ?_
        refine XS.icmpYes X0.here hx rfl (pc0 := 10) (pc' := 31) rfl (hb hby d25_10) rfl (flt (by decide : ¬ ((2 : Int32) < (2 : Int32)))).2.1 (by decide) (by decide) ?_
        show Steps p.tables e below (s₁.setTop (mkF m 31 #[.val (.ref a1), .val (.int p2), .val (.int 0), .val (.int 2), .val (.int (p2.toInt8.toInt32)), .val (.int 2)] [])) _
        refine XS.iconst X0.here hx rfl (hb hby d25_31) ?_
        exact kt
      obtain ⟨fs, hr, hrun, hended, hW, hsame⟩ := X0.leave (v := some (.int (-1 : Int32))) (fun h => by rw [Bd.returns] at h; cases h)
      refine ⟨_, _, fin _ (pre11 _ ?_), hrun, hended, _, _, rfl, ?_, ⟨_, rfl⟩, hW, hsame.mono (by decide) (by decide)⟩
      · exact retI X0 hx Bd.returns (hb hby d25_32) hr
      · show Qioc2 Z a1 p2 k1 h0 n0 _ s₁.heap _
        rw [e0]
        exact ⟨(by show some _ = some _; rw [own_ioc2, if_neg hc3, if_neg hc8]), N0, rfl⟩

theorem ef_iof2 (m : MethodId) (x0 : Addr) (x1 : Int32) : entryFrame m #[(.ref x0), (.int x1), (.int 0), (.int 2)] 4 = mkF m 0 #[.val (.ref x0), .val (.int x1), .val (.int 0), .val (.int 2)] [] := by first | (simp [entryFrame, mkF, argsToLocals, Value.category]; done) | rfl
def own_iof2 (p2 : Int32) : Int32 := (if (own_can p2) = (0 : Int32) then (-1 : Int32) else (own_ioc2 p2))
def Qiof2 (Z : State) (a1 : Addr) (p2 : Int32) (k1 : ClassId) (h0 : Heap) (n0 : Nat) (v : Option Value) (h : Heap) (L : List Loc) : Prop := v = (some (.int (own_iof2 p2))) ∧ Fr n0 L ∧ h = h0
set_option maxRecDepth 65536 in
set_option maxHeartbeats 40000000 in
theorem rmiof2 (l : Launch) (Z : State) (a0 : Array Value) (hw : ∀ d ∈ tables_1, d.before a0 Z = true) (ws : List Jvm.Cond) (a1 : Addr) (p2 : Int32) (k1 : ClassId) (h0 : Heap) (n0 : Nat) (Z0 : n0 ≤ h0.size) (V1 : Arv Z h0 a1 k1 .byte (2 : Int32) [(.int 45), (.int 95)] (.int 0)) :
    MetFree l own_m18 (head1 (Jvm.Cond.code own_m18 jdk_43_method_22_code 4 (some .int) :: ws) (own_r 1 0 0 17)) (fun a U => a = #[(.ref a1), (.int p2), (.int 0), (.int 2)] ∧ Z.Warmed39 U.vm ∧ U.heap = h0) (fun _ _ _ _ _ => True) (fun _ U o U' => ∃ v L, o = .returned v ∧ Qiof2 Z a1 p2 k1 h0 n0 v U'.heap L ∧ FrameEnd U o U' L (own_r 1 0 0 17).cells (own_r 1 0 0 17).slots) := by
  refine MetFree.of_bodySF (plainFor_of_name pn_21) hisR ?_
  intro p e s m args below meth c s₁ Bd hml0 hP hK
  obtain ⟨rfl, hZ, hh⟩ := hP
  have hx := Bd.exec
  have hby := Bd.bytes
  have hml : c.maxLocals = 4 := hml0
  have hown0 := findClass_of_methodNamed Bd.named
  have hown : s.vm.findClass "java/lang/StringLatin1" = some m.cls := hown0
  have hnm := (name_of_methodNamed Bd.named Bd.method).1
  have X0 : Stand p l e (own_r 1 0 0 17) s m #[(.ref a1), (.int p2), (.int 0), (.int 2)] below meth c s₁ [] 0 0 := Stand.of_body Bd
  have e0 : s₁.heap = h0 := by rw [← hh, Bd.state]; rfl
  have N0 := Fr.nil n0
  obtain ⟨S0, hS0⟩ : ∃ z, z = s₁.setTop (entryFrame m #[(.ref a1), (.int p2), (.int 0), (.int 2)] 4) := ⟨_, rfl⟩
  have pre0 : own_Go p e below S0 (s₁.setTop (mkF m 0 #[.val (.ref a1), .val (.int p2), .val (.int 0), .val (.int 2)] [])) := fun t k => by rw [hS0]; exact castTop (ef_iof2 m a1 p2) k
  have fin : ∀ t, Steps p.tables e below S0 t → Steps p.tables e below (s₁.setTop (entryFrame m #[(.ref a1), (.int p2), (.int 0), (.int 2)] 4)) t := fun t k => by rw [hS0] at k; exact k
  have pre1 : own_Go p e below S0 (s₁.setTop (mkF m 1 #[.val (.ref a1), .val (.int p2), .val (.int 0), .val (.int 2)] [(.int p2)])) := by
    intro t kt
    refine pre0 t ?_
    refine XS.iloadN X0.here hx rfl (hb hby d21_0) rfl ?_
    exact kt
  obtain ⟨_, _, ⟨T2, L2, k2, n2⟩, -, X2, ⟨Lc2, hQ2, l2, y2, z2⟩, st2⟩ := Jvm.LawKit.callS X0 hx (y := own_m16) hown (mvT hZ (hw _ (own_w 104 rfl))) (mvT hZ (hw _ (own_w 105 rfl))) (mvT hZ (hw _ (own_w 74 rfl))) (mvT hZ (hw _ (own_w 106 rfl))) (by decide) (backOf (W := 0) (rm22 l Z a0 hw [] p2 h0 n0 Z0 ) hZ (hw _ (own_w 106 rfl)) (hw _ (own_w 74 rfl)) (by decide) (by decide)) (g := (mkF m 1 #[.val (.ref a1), .val (.int p2), .val (.int 0), .val (.int 2)] [(.int p2)])) rfl (by rw [hml]; rfl) (argsL := [(.int p2)]) (rest := []) (lenOf pd_15 rfl) rfl (by show 2 * 0 + _ ≤ _; exact Nat.le_of_eq rfl) (hb hby d21_1) (fun _ _ => ⟨rfl, e0, (by decide : 0 + 0 ≤ _), (by decide : 0 + 0 ≤ _)⟩)
  dsimp only [Pt.U, Pt.locs, Pt.cells, Pt.slots] at X2 l2 y2 z2 st2 hQ2
  subst l2 y2 z2
  obtain ⟨rfl, Nq2, eq2⟩ := hQ2
  have N2 := Fr.app N0 Nq2
  have pre4 : own_Go p e below S0 (T2.setTop (mkF m 4 #[.val (.ref a1), .val (.int p2), .val (.int 0), .val (.int 2)] [(.int (own_can p2))])) := by
    intro t kt
    refine pre1 t ?_
    refine st2 _ ?_
    show Steps p.tables e below (T2.setTop (mkF m 4 #[.val (.ref a1), .val (.int p2), .val (.int 0), .val (.int 2)] [(.int (own_can p2))])) _
    exact kt
  by_cases hc3 : (own_can p2) = (0 : Int32)
  · have pre5 : own_Go p e below S0 (T2.setTop (mkF m 8 #[.val (.ref a1), .val (.int p2), .val (.int 0), .val (.int 2)] [(.int (-1 : Int32))])) := by
      intro t kt
      refine pre4 t ?_
      refine XS.ifNo X2.here hx rfl (hb hby d21_4) rfl ((if0 _ _).trans (teq hc3).2) ?_
      refine XS.iconst X2.here hx rfl (hb hby d21_7) ?_
      exact kt
    obtain ⟨fs, hr, hrun, hended, hW, hsame⟩ := X2.leave (v := some (.int (-1 : Int32))) (fun h => by rw [Bd.returns] at h; cases h)
    refine ⟨_, _, fin _ (pre5 _ ?_), hrun, hended, _, _, rfl, ?_, ⟨_, rfl⟩, hW, hsame.mono (by decide) (by decide)⟩
    · exact retI X2 hx Bd.returns (hb hby d21_8) hr
    · show Qiof2 Z a1 p2 k1 h0 n0 _ T2.heap _
      rw [eq2]
      exact ⟨(by show some _ = some _; rw [own_iof2, if_pos hc3]), N2, rfl⟩
  · have pre6 : own_Go p e below S0 (T2.setTop (mkF m 11 #[.val (.ref a1), .val (.int p2), .val (.int 0), .val (.int 2)] [(.int 0), (.int 0)])) := by
      intro t kt
      refine pre4 t ?_
      refine XS.ifYes X2.here hx rfl (pc0 := 4) (pc' := 9) rfl (hb hby d21_4) rfl ((if0 _ _).trans (feq hc3).2) (by decide) (by decide) ?_
      refine XS.iloadN X2.here hx rfl (hb hby d21_9) rfl ?_
      refine XS.iconst X2.here hx rfl (hb hby d21_10) ?_
      exact kt
    obtain ⟨_, _, ⟨T7, L7, k7, n7⟩, -, X7, ⟨Lc7, hQ7, l7, y7, z7⟩, st7⟩ := Jvm.LawKit.callS X2 hx (y := own_m4) hown (mvT hZ (hw _ (own_w 107 rfl))) (mvT hZ (hw _ (own_w 108 rfl))) (mvT hZ (hw _ (own_w 109 rfl))) (mvT hZ (hw _ (own_w 110 rfl))) (by decide) (backOf (W := 0) (rm23 l Z a0 hw [] (0 : Int32) (0 : Int32) h0 n0 Z0 ) hZ (hw _ (own_w 110 rfl)) (hw _ (own_w 109 rfl)) (by decide) (by decide)) (g := (mkF m 11 #[.val (.ref a1), .val (.int p2), .val (.int 0), .val (.int 2)] [(.int 0), (.int 0)])) rfl (by rw [hml]; rfl) (argsL := [(.int 0), (.int 0)]) (rest := []) (lenOf pd_16 rfl) rfl (by show 2 * 0 + _ ≤ _; exact Nat.le_of_eq rfl) (hb hby d21_11) (fun _ _ => ⟨rfl, eq2, (by decide : 0 + 0 ≤ _), (by decide : 0 + 0 ≤ _)⟩)
    dsimp only [Pt.U, Pt.locs, Pt.cells, Pt.slots] at X7 l7 y7 z7 st7 hQ7
    subst l7 y7 z7
    obtain ⟨rfl, Nq7, eq7⟩ := hQ7
    have N7 := Fr.app N2 Nq7
    have pre8 : own_Go p e below S0 (T7.setTop (mkF m 14 #[.val (.ref a1), .val (.int p2), .val (.int 0), .val (.int 2)] [(.int (own_mx (0 : Int32) (0 : Int32)))])) := by
      intro t kt
      refine pre6 t ?_
      refine st7 _ ?_
      show Steps p.tables e below (T7.setTop (mkF m 14 #[.val (.ref a1), .val (.int p2), .val (.int 0), .val (.int 2)] [(.int (own_mx (0 : Int32) (0 : Int32)))])) _
      exact kt
    have pre9 : own_Go p e below S0 (T7.setTop (mkF m 14 #[.val (.ref a1), .val (.int p2), .val (.int 0), .val (.int 2)] [(.int 0)])) := by
      intro t kt
      refine pre8 t ?_
      rw [(by decide : (own_mx (0 : Int32) (0 : Int32)) = (0 : Int32))]
      exact kt
    have pre10 : own_Go p e below S0 (T7.setTop (mkF m 17 #[.val (.ref a1), .val (.int p2), .val (.int 0), .val (.int 2)] [(.ref a1), (.int 2)])) := by
      intro t kt
      refine pre9 t ?_
      refine XS.istoreN X7.here hx rfl (hb hby d21_14) rfl (l' := #[.val (.ref a1), .val (.int p2), .val (.int 0), .val (.int 2)]) rfl ?_
      refine XS.iloadN X7.here hx rfl (hb hby d21_15) rfl ?_
      refine XS.aloadN X7.here hx rfl (hb hby d21_16) rfl rfl ?_
      exact kt
    obtain ⟨cl11, Ar11, -, Sz11, Ng11, -, -⟩ := id V1
    have pre12 : own_Go p e below S0 (T7.setTop (mkF m 18 #[.val (.ref a1), .val (.int p2), .val (.int 0), .val (.int 2)] [(.int 2), (.int 2)])) := by
      intro t kt
      refine pre10 t ?_
      refine X7.arraylength hx (by rw [eq7]; exact Ar11.1) (State.isArrayOf_alike hZ.alike Ar11.2.1) (g := (mkF m 17 #[.val (.ref a1), .val (.int p2), .val (.int 0), .val (.int 2)] [(.ref a1), (.int 2)])) rfl rfl (hb hby d21_17) _ ?_
      rw [len_of Sz11 Ng11]
      show Steps p.tables e below (T7.setTop (mkF m 18 #[.val (.ref a1), .val (.int p2), .val (.int 0), .val (.int 2)] [(.int 2), (.int 2)])) _
      exact kt
    obtain ⟨_, _, ⟨T13, L13, k13, n13⟩, -, X13, ⟨Lc13, hQ13, l13, y13, z13⟩, st13⟩ := Jvm.LawKit.callS X7 hx (y := own_m5) hown (mvT hZ (hw _ (own_w 111 rfl))) (mvT hZ (hw _ (own_w 112 rfl))) (mvT hZ (hw _ (own_w 109 rfl))) (mvT hZ (hw _ (own_w 113 rfl))) (by decide) (backOf (W := 0) (rm24 l Z a0 hw [] (2 : Int32) (2 : Int32) h0 n0 Z0 ) hZ (hw _ (own_w 113 rfl)) (hw _ (own_w 109 rfl)) (by decide) (by decide)) (g := (mkF m 18 #[.val (.ref a1), .val (.int p2), .val (.int 0), .val (.int 2)] [(.int 2), (.int 2)])) rfl (by rw [hml]; rfl) (argsL := [(.int 2), (.int 2)]) (rest := []) (lenOf pd_16 rfl) rfl (by show 2 * 0 + _ ≤ _; exact Nat.le_of_eq rfl) (hb hby d21_18) (fun _ _ => ⟨rfl, eq7, (by decide : 0 + 0 ≤ _), (by decide : 0 + 0 ≤ _)⟩)
    dsimp only [Pt.U, Pt.locs, Pt.cells, Pt.slots] at X13 l13 y13 z13 st13 hQ13
    subst l13 y13 z13
    obtain ⟨rfl, Nq13, eq13⟩ := hQ13
    have N13 := Fr.app N7 Nq13
    have pre14 : own_Go p e below S0 (T13.setTop (mkF m 21 #[.val (.ref a1), .val (.int p2), .val (.int 0), .val (.int 2)] [(.int (own_mn (2 : Int32) (2 : Int32)))])) := by
      intro t kt
      refine pre12 t ?_
      refine st13 _ ?_
      show Steps p.tables e below (T13.setTop (mkF m 21 #[.val (.ref a1), .val (.int p2), .val (.int 0), .val (.int 2)] [(.int (own_mn (2 : Int32) (2 : Int32)))])) _
      exact kt
    have pre15 : own_Go p e below S0 (T13.setTop (mkF m 21 #[.val (.ref a1), .val (.int p2), .val (.int 0), .val (.int 2)] [(.int 2)])) := by
      intro t kt
      refine pre14 t ?_
      rw [(by decide : (own_mn (2 : Int32) (2 : Int32)) = (2 : Int32))]
      exact kt
    have pre16 : own_Go p e below S0 (T13.setTop (mkF m 33 #[.val (.ref a1), .val (.int p2), .val (.int 0), .val (.int 2)] [(.int 2), (.int 0), (.int p2), (.ref a1)])) := by
      intro t kt
      refine pre15 t ?_
      refine XS.istoreN X13.here hx rfl (hb hby d21_21) rfl (l' := #[.val (.ref a1), .val (.int p2), .val (.int 0), .val (.int 2)]) rfl ?_
      refine XS.iloadN X13.here hx rfl (hb hby d21_22) rfl ?_
      refine XS.iloadN X13.here hx rfl (hb hby d21_23) rfl ?_
      refine XS.icmpYes X13.here hx rfl (pc0 := 24) (pc' := 29) rfl (hb hby d21_24) rfl (tlt (by decide : (0 : Int32) < (2 : Int32))).1 (by decide) (by decide) ?_
      refine XS.aloadN X13.here hx rfl (hb hby d21_29) rfl rfl ?_
      refine XS.iloadN X13.here hx rfl (hb hby d21_30) rfl ?_
      show Steps p.tables e below (T13.setTop (mkF m 31 #[.val (.ref a1), .val (.int p2), .val (.int 0), .val (.int 2)] [(.int p2), (.ref a1)])) _
      refine XS.iloadN X13.here hx rfl (hb hby d21_31) rfl ?_
      refine XS.iloadN X13.here hx rfl (hb hby d21_32) rfl ?_
      exact kt
    obtain ⟨_, _, ⟨T17, L17, k17, n17⟩, -, X17, ⟨Lc17, hQ17, l17, y17, z17⟩, st17⟩ := Jvm.LawKit.callS X13 hx (y := own_m19) hown (mvT hZ (hw _ (own_w 114 rfl))) (mvT hZ (hw _ (own_w 115 rfl))) (mvT hZ (hw _ (own_w 74 rfl))) (mvT hZ (hw _ (own_w 116 rfl))) (by decide) (backOf (W := 0) (rmioc2 l Z a0 hw [] a1 p2 k1 h0 n0 Z0 V1) hZ (hw _ (own_w 116 rfl)) (hw _ (own_w 74 rfl)) (by decide) (by decide)) (g := (mkF m 33 #[.val (.ref a1), .val (.int p2), .val (.int 0), .val (.int 2)] [(.int 2), (.int 0), (.int p2), (.ref a1)])) rfl (by rw [hml]; rfl) (argsL := [(.ref a1), (.int p2), (.int 0), (.int 2)]) (rest := []) (lenOf pd_17 rfl) rfl (by show 2 * 0 + _ ≤ _; exact Nat.le_of_eq rfl) (hb hby d21_33) (fun _ _ => ⟨rfl, eq13, (by decide : 0 + 0 ≤ _), (by decide : 0 + 0 ≤ _)⟩)
    dsimp only [Pt.U, Pt.locs, Pt.cells, Pt.slots] at X17 l17 y17 z17 st17 hQ17
    subst l17 y17 z17
    obtain ⟨rfl, Nq17, eq17⟩ := hQ17
    have N17 := Fr.app N13 Nq17
    have pre18 : own_Go p e below S0 (T17.setTop (mkF m 36 #[.val (.ref a1), .val (.int p2), .val (.int 0), .val (.int 2)] [(.int (own_ioc2 p2))])) := by
      intro t kt
      refine pre16 t ?_
      refine st17 _ ?_
      show Steps p.tables e below (T17.setTop (mkF m 36 #[.val (.ref a1), .val (.int p2), .val (.int 0), .val (.int 2)] [(.int (own_ioc2 p2))])) _
      exact kt
    obtain ⟨fs, hr, hrun, hended, hW, hsame⟩ := X17.leave (v := some (.int (own_ioc2 p2))) (fun h => by rw [Bd.returns] at h; cases h)
    refine ⟨_, _, fin _ (pre18 _ ?_), hrun, hended, _, _, rfl, ?_, ⟨_, rfl⟩, hW, hsame.mono (by decide) (by decide)⟩
    · exact retI X17 hx Bd.returns (hb hby d21_36) hr
    · show Qiof2 Z a1 p2 k1 h0 n0 _ T17.heap _
      rw [eq17]
      exact ⟨(by show some _ = some _; rw [own_iof2, if_neg hc3]), N17, rfl⟩

theorem ef_lenP2 (m : MethodId) (x0 : Addr) : entryFrame m #[(.ref x0)] 1 = mkF m 0 #[.val (.ref x0)] [] := by first | (simp [entryFrame, mkF, argsToLocals, Value.category]; done) | rfl
def QlenP2 (Z : State) (a1 : Addr) (wC : Int32) (vb : Addr) (k1 : ClassId) (h0 : Heap) (n0 : Nat) (v : Option Value) (h : Heap) (L : List Loc) : Prop := v = (some (.int 2)) ∧ Fr n0 L ∧ h = h0
set_option maxRecDepth 65536 in
set_option maxHeartbeats 40000000 in
theorem rmlenP2 (l : Launch) (Z : State) (a0 : Array Value) (hw : ∀ d ∈ tables_1, d.before a0 Z = true) (ws : List Jvm.Cond) (a1 : Addr) (wC : Int32) (vb : Addr) (k1 : ClassId) (h0 : Heap) (n0 : Nat) (Z0 : n0 ≤ h0.size) (O0 : Old Z n0 h0) (qC : (own_SC Z wC)) (pE1 : Exa Z h0 a1 "java/lang/String") (FC : Fld Z h0 a1 "java/lang/String" "coder" "B" (.int 0)) (FV : Fld Z h0 a1 "java/lang/String" "value" "[B" (.ref vb)) (V1 : Arv Z h0 vb k1 .byte (2 : Int32) [(.int 45), (.int 95)] (.int 0)) :
    MetFree l own_m15 (head1 (Jvm.Cond.code own_m15 jdk_42_method_54_code 1 (some .int) :: ws) (own_r 1 0 0 13)) (fun a U => a = #[(.ref a1)] ∧ Z.Warmed39 U.vm ∧ U.heap = h0) (fun _ _ _ _ _ => True) (fun _ U o U' => ∃ v L, o = .returned v ∧ QlenP2 Z a1 wC vb k1 h0 n0 v U'.heap L ∧ FrameEnd U o U' L (own_r 1 0 0 13).cells (own_r 1 0 0 13).slots) := by
  refine MetFree.of_bodySF (plainFor_of_name pn_11) hisR ?_
  intro p e s m args below meth c s₁ Bd hml0 hP hK
  obtain ⟨rfl, hZ, hh⟩ := hP
  have hx := Bd.exec
  have hby := Bd.bytes
  have hml : c.maxLocals = 1 := hml0
  have hown0 := findClass_of_methodNamed Bd.named
  have hown : s.vm.findClass "java/lang/String" = some m.cls := hown0
  have hnm := (name_of_methodNamed Bd.named Bd.method).1
  have X0 : Stand p l e (own_r 1 0 0 13) s m #[(.ref a1)] below meth c s₁ [] 0 0 := Stand.of_body Bd
  have e0 : s₁.heap = h0 := by rw [← hh, Bd.state]; rfl
  have N0 := Fr.nil n0
  obtain ⟨S0, hS0⟩ : ∃ z, z = s₁.setTop (entryFrame m #[(.ref a1)] 1) := ⟨_, rfl⟩
  have pre0 : own_Go p e below S0 (s₁.setTop (mkF m 0 #[.val (.ref a1)] [])) := fun t k => by rw [hS0]; exact castTop (ef_lenP2 m a1) k
  have fin : ∀ t, Steps p.tables e below S0 t → Steps p.tables e below (s₁.setTop (entryFrame m #[(.ref a1)] 1)) t := fun t k => by rw [hS0] at k; exact k
  have pre1 : own_Go p e below S0 (s₁.setTop (mkF m 1 #[.val (.ref a1)] [(.ref a1)])) := by
    intro t kt
    refine pre0 t ?_
    refine XS.aloadN X0.here hx rfl (hb hby d11_0) rfl rfl ?_
    exact kt
  obtain ⟨T2, X2, e2, st2⟩ := getF X0 hx hZ hown (host := "") (Or.inl (hw _ (own_w 37 rfl))) Via.refl e0 FV (g := (mkF m 1 #[.val (.ref a1)] [(.ref a1)])) rfl rfl (hb hby d11_1)
  have pre3 : own_Go p e below S0 (T2.setTop (mkF m 4 #[.val (.ref a1)] [(.ref vb)])) := by
    intro t kt
    refine pre1 t ?_
    refine st2 _ ?_
    exact kt
  obtain ⟨cl4, Ar4, -, Sz4, Ng4, -, -⟩ := id V1
  have pre5 : own_Go p e below S0 (T2.setTop (mkF m 6 #[.val (.ref a1)] [(.ref a1), (.int 2)])) := by
    intro t kt
    refine pre3 t ?_
    refine X2.arraylength hx (by rw [e2]; exact Ar4.1) (State.isArrayOf_alike hZ.alike Ar4.2.1) (g := (mkF m 4 #[.val (.ref a1)] [(.ref vb)])) rfl rfl (hb hby d11_4) _ ?_
    rw [len_of Sz4 Ng4]
    show Steps p.tables e below (T2.setTop (mkF m 5 #[.val (.ref a1)] [(.int 2)])) _
    refine XS.aloadN X2.here hx rfl (hb hby d11_5) rfl rfl ?_
    exact kt
  obtain ⟨cq6, kq6, qa6, qb6, qc6⟩ := isOf hZ e2 pE1
  obtain ⟨_, _, ⟨T6, L6, k6, n6⟩, -, X6, ⟨Lc6, hQ6, l6, y6, z6⟩, st6⟩ := X2.virtualBack hx (y := own_m10) (z := own_m10) hown (mvT hZ (hw _ (own_w 57 rfl))) (mvT hZ (hw _ (own_w 58 rfl))) (notFace_of_selects (args := #[]) (mvT hZ (hw _ (own_w 60 rfl)))) (mvT hZ (hw _ (own_w 60 rfl))) (mvT hZ (hw _ (own_w 59 rfl))) (by decide) (backOf (W := 1) (rmcoder0 l Z a0 hw [] a1 wC h0 n0 Z0 O0 qC FC) hZ (hw _ (own_w 61 rfl)) (hw _ (own_w 11 rfl)) (by decide) (by decide)) qa6 qc6 (g := (mkF m 6 #[.val (.ref a1)] [(.ref a1), (.int 2)])) rfl (by rw [hml]; rfl) (Steps.refl _) (argsL := []) (rest := [(.int 2)]) (lenOf pd_8 rfl) rfl (by show 2 * 0 + _ ≤ _; exact Nat.le_of_eq rfl) (hb hby d11_6) (fun _ _ => ⟨rfl, e2, (by decide : 0 + 0 ≤ _), (by decide : 0 + 0 ≤ _)⟩)
  dsimp only [Pt.U, Pt.locs, Pt.cells, Pt.slots] at X6 l6 y6 z6 st6 hQ6
  subst l6 y6 z6
  obtain ⟨rfl, Nq6, eq6⟩ := hQ6
  have N6 := Fr.app N0 Nq6
  have pre7 : own_Go p e below S0 (T6.setTop (mkF m 10 #[.val (.ref a1)] [(.int 2)])) := by
    intro t kt
    refine pre5 t ?_
    refine st6.trans ?_
    show Steps p.tables e below (T6.setTop (mkF m 9 #[.val (.ref a1)] [(.int 0), (.int 2)])) _
    refine XS.ishr X6.here hx rfl (hb hby d11_9) rfl ?_
    exact kt
  obtain ⟨fs, hr, hrun, hended, hW, hsame⟩ := X6.leave (v := some (.int 2)) (fun h => by rw [Bd.returns] at h; cases h)
  refine ⟨_, _, fin _ (pre7 _ ?_), hrun, hended, _, _, rfl, ?_, ⟨_, rfl⟩, hW, hsame.mono (by decide) (by decide)⟩
  · exact retI X6 hx Bd.returns (hb hby d11_10) hr
  · show QlenP2 Z a1 wC vb k1 h0 n0 _ T6.heap _
    rw [eq6]
    exact ⟨rfl, N6, rfl⟩

theorem ef_io2_2 (m : MethodId) (x0 : Addr) (x1 : Int32) : entryFrame m #[(.ref x0), (.int x1), (.int 0)] 3 = mkF m 0 #[.val (.ref x0), .val (.int x1), .val (.int 0)] [] := by first | (simp [entryFrame, mkF, argsToLocals, Value.category]; done) | rfl
def Qio2_2 (Z : State) (a1 : Addr) (p2 : Int32) (wC : Int32) (vb : Addr) (k1 : ClassId) (h0 : Heap) (n0 : Nat) (v : Option Value) (h : Heap) (L : List Loc) : Prop := v = (some (.int (own_iof2 p2))) ∧ Fr n0 L ∧ h = h0
set_option maxRecDepth 65536 in
set_option maxHeartbeats 40000000 in
theorem rmio2_2 (l : Launch) (Z : State) (a0 : Array Value) (hw : ∀ d ∈ tables_1, d.before a0 Z = true) (ws : List Jvm.Cond) (a1 : Addr) (p2 : Int32) (wC : Int32) (vb : Addr) (k1 : ClassId) (h0 : Heap) (n0 : Nat) (Z0 : n0 ≤ h0.size) (O0 : Old Z n0 h0) (qC : (own_SC Z wC)) (pE1 : Exa Z h0 a1 "java/lang/String") (FC : Fld Z h0 a1 "java/lang/String" "coder" "B" (.int 0)) (FV : Fld Z h0 a1 "java/lang/String" "value" "[B" (.ref vb)) (V1 : Arv Z h0 vb k1 .byte (2 : Int32) [(.int 45), (.int 95)] (.int 0)) :
    MetFree l own_m12 (head1 (Jvm.Cond.code own_m12 jdk_42_method_80_code 3 (some .int) :: ws) (own_r 2 0 0 32)) (fun a U => a = #[(.ref a1), (.int p2), (.int 0)] ∧ Z.Warmed39 U.vm ∧ U.heap = h0) (fun _ _ _ _ _ => True) (fun _ U o U' => ∃ v L, o = .returned v ∧ Qio2_2 Z a1 p2 wC vb k1 h0 n0 v U'.heap L ∧ FrameEnd U o U' L (own_r 2 0 0 32).cells (own_r 2 0 0 32).slots) := by
  refine MetFree.of_bodySF (plainFor_of_name pn_20) hisR ?_
  intro p e s m args below meth c s₁ Bd hml0 hP hK
  obtain ⟨rfl, hZ, hh⟩ := hP
  have hx := Bd.exec
  have hby := Bd.bytes
  have hml : c.maxLocals = 3 := hml0
  have hown0 := findClass_of_methodNamed Bd.named
  have hown : s.vm.findClass "java/lang/String" = some m.cls := hown0
  have hnm := (name_of_methodNamed Bd.named Bd.method).1
  have X0 : Stand p l e (own_r 2 0 0 32) s m #[(.ref a1), (.int p2), (.int 0)] below meth c s₁ [] 0 0 := Stand.of_body Bd
  have e0 : s₁.heap = h0 := by rw [← hh, Bd.state]; rfl
  have N0 := Fr.nil n0
  obtain ⟨S0, hS0⟩ : ∃ z, z = s₁.setTop (entryFrame m #[(.ref a1), (.int p2), (.int 0)] 3) := ⟨_, rfl⟩
  have pre0 : own_Go p e below S0 (s₁.setTop (mkF m 0 #[.val (.ref a1), .val (.int p2), .val (.int 0)] [])) := fun t k => by rw [hS0]; exact castTop (ef_io2_2 m a1 p2) k
  have fin : ∀ t, Steps p.tables e below S0 t → Steps p.tables e below (s₁.setTop (entryFrame m #[(.ref a1), (.int p2), (.int 0)] 3)) t := fun t k => by rw [hS0] at k; exact k
  have pre1 : own_Go p e below S0 (s₁.setTop (mkF m 1 #[.val (.ref a1), .val (.int p2), .val (.int 0)] [(.ref a1)])) := by
    intro t kt
    refine pre0 t ?_
    refine XS.aloadN X0.here hx rfl (hb hby d20_0) rfl rfl ?_
    exact kt
  obtain ⟨cq2, kq2, qa2, qb2, qc2⟩ := isOf hZ e0 pE1
  obtain ⟨_, _, ⟨T2, L2, k2, n2⟩, -, X2, ⟨Lc2, hQ2, l2, y2, z2⟩, st2⟩ := X0.virtualBack hx (y := own_m14) (z := own_m14) hown (mvT hZ (hw _ (own_w 67 rfl))) (mvT hZ (hw _ (own_w 68 rfl))) (notFace_of_selects (args := #[]) (mvT hZ (hw _ (own_w 70 rfl)))) (mvT hZ (hw _ (own_w 70 rfl))) (mvT hZ (hw _ (own_w 69 rfl))) (by decide) (backOf (W := 0) (rmisLat0 l Z a0 hw [] a1 wC h0 n0 Z0 O0 qC FC) hZ (hw _ (own_w 71 rfl)) (hw _ (own_w 11 rfl)) (by decide) (by decide)) qa2 qc2 (g := (mkF m 1 #[.val (.ref a1), .val (.int p2), .val (.int 0)] [(.ref a1)])) rfl (by rw [hml]; rfl) (Steps.refl _) (argsL := []) (rest := []) (lenOf pd_13 rfl) rfl (by show 2 * 0 + _ ≤ _; exact Nat.le_of_eq rfl) (hb hby d20_1) (fun _ _ => ⟨rfl, e0, (by decide : 0 + 0 ≤ _), (by decide : 0 + 0 ≤ _)⟩)
  dsimp only [Pt.U, Pt.locs, Pt.cells, Pt.slots] at X2 l2 y2 z2 st2 hQ2
  subst l2 y2 z2
  obtain ⟨rfl, Nq2, eq2⟩ := hQ2
  have N2 := Fr.app N0 Nq2
  have pre3 : own_Go p e below S0 (T2.setTop (mkF m 8 #[.val (.ref a1), .val (.int p2), .val (.int 0)] [(.ref a1)])) := by
    intro t kt
    refine pre1 t ?_
    refine st2.trans ?_
    show Steps p.tables e below (T2.setTop (mkF m 4 #[.val (.ref a1), .val (.int p2), .val (.int 0)] [(.int 1)])) _
    refine XS.ifNo X2.here hx rfl (hb hby d20_4) rfl ((if0 _ _).trans (feq (by decide : ¬ ((1 : Int32) = (0 : Int32)))).1) ?_
    refine XS.aloadN X2.here hx rfl (hb hby d20_7) rfl rfl ?_
    exact kt
  obtain ⟨T4, X4, e4, st4⟩ := getF X2 hx hZ hown (host := "") (Or.inl (hw _ (own_w 37 rfl))) Via.refl eq2 FV (g := (mkF m 8 #[.val (.ref a1), .val (.int p2), .val (.int 0)] [(.ref a1)])) rfl rfl (hb hby d20_8)
  have pre5 : own_Go p e below S0 (T4.setTop (mkF m 14 #[.val (.ref a1), .val (.int p2), .val (.int 0)] [(.ref a1), (.int 0), (.int p2), (.ref vb)])) := by
    intro t kt
    refine pre3 t ?_
    refine st4 _ ?_
    refine XS.iloadN X4.here hx rfl (hb hby d20_11) rfl ?_
    refine XS.iloadN X4.here hx rfl (hb hby d20_12) rfl ?_
    refine XS.aloadN X4.here hx rfl (hb hby d20_13) rfl rfl ?_
    exact kt
  obtain ⟨cq6, kq6, qa6, qb6, qc6⟩ := isOf hZ e4 pE1
  obtain ⟨_, _, ⟨T6, L6, k6, n6⟩, -, X6, ⟨Lc6, hQ6, l6, y6, z6⟩, st6⟩ := X4.virtualBack hx (y := own_m15) (z := own_m15) hown (mvT hZ (hw _ (own_w 100 rfl))) (mvT hZ (hw _ (own_w 53 rfl))) (notFace_of_selects (args := #[]) (mvT hZ (hw _ (own_w 55 rfl)))) (mvT hZ (hw _ (own_w 55 rfl))) (mvT hZ (hw _ (own_w 54 rfl))) (by decide) (backOf (W := 3) (rmlenP2 l Z a0 hw [] a1 wC vb k1 h0 n0 Z0 O0 qC pE1 FC FV V1) hZ (hw _ (own_w 56 rfl)) (hw _ (own_w 11 rfl)) (by decide) (by decide)) qa6 qc6 (g := (mkF m 14 #[.val (.ref a1), .val (.int p2), .val (.int 0)] [(.ref a1), (.int 0), (.int p2), (.ref vb)])) rfl (by rw [hml]; rfl) (Steps.refl _) (argsL := []) (rest := [(.int 0), (.int p2), (.ref vb)]) (lenOf pd_18 rfl) rfl (by show 2 * 0 + _ ≤ _; exact Nat.le_of_eq rfl) (hb hby d20_14) (fun _ _ => ⟨rfl, e4, (by decide : 0 + 0 ≤ _), (by decide : 0 + 0 ≤ _)⟩)
  dsimp only [Pt.U, Pt.locs, Pt.cells, Pt.slots] at X6 l6 y6 z6 st6 hQ6
  subst l6 y6 z6
  obtain ⟨rfl, Nq6, eq6⟩ := hQ6
  have N6 := Fr.app N2 Nq6
  have pre7 : own_Go p e below S0 (T6.setTop (mkF m 17 #[.val (.ref a1), .val (.int p2), .val (.int 0)] [(.int 2), (.int 0), (.int p2), (.ref vb)])) := by
    intro t kt
    refine pre5 t ?_
    refine st6.trans ?_
    show Steps p.tables e below (T6.setTop (mkF m 17 #[.val (.ref a1), .val (.int p2), .val (.int 0)] [(.int 2), (.int 0), (.int p2), (.ref vb)])) _
    exact kt
  obtain ⟨_, _, ⟨T8, L8, k8, n8⟩, -, X8, ⟨Lc8, hQ8, l8, y8, z8⟩, st8⟩ := Jvm.LawKit.callS X6 hx (y := own_m18) hown (mvT hZ (hw _ (own_w 101 rfl))) (mvT hZ (hw _ (own_w 102 rfl))) (mvT hZ (hw _ (own_w 74 rfl))) (mvT hZ (hw _ (own_w 103 rfl))) (by decide) (backOf (W := 0) (rmiof2 l Z a0 hw [] vb p2 k1 h0 n0 Z0 V1) hZ (hw _ (own_w 103 rfl)) (hw _ (own_w 74 rfl)) (by decide) (by decide)) (g := (mkF m 17 #[.val (.ref a1), .val (.int p2), .val (.int 0)] [(.int 2), (.int 0), (.int p2), (.ref vb)])) rfl (by rw [hml]; rfl) (argsL := [(.ref vb), (.int p2), (.int 0), (.int 2)]) (rest := []) (lenOf pd_17 rfl) rfl (by show 2 * 0 + _ ≤ _; exact Nat.le_of_eq rfl) (hb hby d20_17) (fun _ _ => ⟨rfl, eq6, (by decide : 0 + 0 ≤ _), (by decide : 0 + 0 ≤ _)⟩)
  dsimp only [Pt.U, Pt.locs, Pt.cells, Pt.slots] at X8 l8 y8 z8 st8 hQ8
  subst l8 y8 z8
  obtain ⟨rfl, Nq8, eq8⟩ := hQ8
  have N8 := Fr.app N6 Nq8
  have pre9 : own_Go p e below S0 (T8.setTop (mkF m 36 #[.val (.ref a1), .val (.int p2), .val (.int 0)] [(.int (own_iof2 p2))])) := by
    intro t kt
    refine pre7 t ?_
    refine st8 _ ?_
    show Steps p.tables e below (T8.setTop (mkF m 20 #[.val (.ref a1), .val (.int p2), .val (.int 0)] [(.int (own_iof2 p2))])) _
    refine XS.goto X8.here hx rfl (pc0 := 20) (pc' := 36) rfl (hb hby d20_20) (by decide) (by decide) ?_
    exact kt
  obtain ⟨fs, hr, hrun, hended, hW, hsame⟩ := X8.leave (v := some (.int (own_iof2 p2))) (fun h => by rw [Bd.returns] at h; cases h)
  refine ⟨_, _, fin _ (pre9 _ ?_), hrun, hended, _, _, rfl, ?_, ⟨_, rfl⟩, hW, hsame.mono (by decide) (by decide)⟩
  · exact retI X8 hx Bd.returns (hb hby d20_36) hr
  · show Qio2_2 Z a1 p2 wC vb k1 h0 n0 _ T8.heap _
    rw [eq8]
    exact ⟨rfl, N8, rfl⟩

theorem ef_io1_2 (m : MethodId) (x0 : Addr) (x1 : Int32) : entryFrame m #[(.ref x0), (.int x1)] 2 = mkF m 0 #[.val (.ref x0), .val (.int x1)] [] := by first | (simp [entryFrame, mkF, argsToLocals, Value.category]; done) | rfl
def Qio1_2 (Z : State) (a1 : Addr) (p2 : Int32) (wC : Int32) (vb : Addr) (k1 : ClassId) (h0 : Heap) (n0 : Nat) (v : Option Value) (h : Heap) (L : List Loc) : Prop := v = (some (.int (own_iof2 p2))) ∧ Fr n0 L ∧ h = h0
set_option maxRecDepth 65536 in
set_option maxHeartbeats 40000000 in
theorem rmio1_2 (l : Launch) (Z : State) (a0 : Array Value) (hw : ∀ d ∈ tables_1, d.before a0 Z = true) (ws : List Jvm.Cond) (a1 : Addr) (p2 : Int32) (wC : Int32) (vb : Addr) (k1 : ClassId) (h0 : Heap) (n0 : Nat) (Z0 : n0 ≤ h0.size) (O0 : Old Z n0 h0) (qC : (own_SC Z wC)) (pE1 : Exa Z h0 a1 "java/lang/String") (FC : Fld Z h0 a1 "java/lang/String" "coder" "B" (.int 0)) (FV : Fld Z h0 a1 "java/lang/String" "value" "[B" (.ref vb)) (V1 : Arv Z h0 vb k1 .byte (2 : Int32) [(.int 45), (.int 95)] (.int 0)) :
    MetFree l own_m11 (head1 (Jvm.Cond.code own_m11 jdk_42_method_79_code 2 (some .int) :: ws) (own_r 3 0 0 46)) (fun a U => a = #[(.ref a1), (.int p2)] ∧ Z.Warmed39 U.vm ∧ U.heap = h0) (fun _ _ _ _ _ => True) (fun _ U o U' => ∃ v L, o = .returned v ∧ Qio1_2 Z a1 p2 wC vb k1 h0 n0 v U'.heap L ∧ FrameEnd U o U' L (own_r 3 0 0 46).cells (own_r 3 0 0 46).slots) := by
  refine MetFree.of_bodySF (plainFor_of_name pn_19) hisR ?_
  intro p e s m args below meth c s₁ Bd hml0 hP hK
  obtain ⟨rfl, hZ, hh⟩ := hP
  have hx := Bd.exec
  have hby := Bd.bytes
  have hml : c.maxLocals = 2 := hml0
  have hown0 := findClass_of_methodNamed Bd.named
  have hown : s.vm.findClass "java/lang/String" = some m.cls := hown0
  have hnm := (name_of_methodNamed Bd.named Bd.method).1
  have X0 : Stand p l e (own_r 3 0 0 46) s m #[(.ref a1), (.int p2)] below meth c s₁ [] 0 0 := Stand.of_body Bd
  have e0 : s₁.heap = h0 := by rw [← hh, Bd.state]; rfl
  have N0 := Fr.nil n0
  obtain ⟨S0, hS0⟩ : ∃ z, z = s₁.setTop (entryFrame m #[(.ref a1), (.int p2)] 2) := ⟨_, rfl⟩
  have pre0 : own_Go p e below S0 (s₁.setTop (mkF m 0 #[.val (.ref a1), .val (.int p2)] [])) := fun t k => by rw [hS0]; exact castTop (ef_io1_2 m a1 p2) k
  have fin : ∀ t, Steps p.tables e below S0 t → Steps p.tables e below (s₁.setTop (entryFrame m #[(.ref a1), (.int p2)] 2)) t := fun t k => by rw [hS0] at k; exact k
  have pre1 : own_Go p e below S0 (s₁.setTop (mkF m 3 #[.val (.ref a1), .val (.int p2)] [(.int 0), (.int p2), (.ref a1)])) := by
    intro t kt
    refine pre0 t ?_
    refine XS.aloadN X0.here hx rfl (hb hby d19_0) rfl rfl ?_
    refine XS.iloadN X0.here hx rfl (hb hby d19_1) rfl ?_
    refine XS.iconst X0.here hx rfl (hb hby d19_2) ?_
    exact kt
  obtain ⟨cq2, kq2, qa2, qb2, qc2⟩ := isOf hZ e0 pE1
  obtain ⟨_, _, ⟨T2, L2, k2, n2⟩, -, X2, ⟨Lc2, hQ2, l2, y2, z2⟩, st2⟩ := X0.virtualBack hx (y := own_m12) (z := own_m12) hown (mvT hZ (hw _ (own_w 95 rfl))) (mvT hZ (hw _ (own_w 96 rfl))) (notFace_of_selects (args := #[]) (mvT hZ (hw _ (own_w 98 rfl)))) (mvT hZ (hw _ (own_w 98 rfl))) (mvT hZ (hw _ (own_w 97 rfl))) (by decide) (backOf (W := 0) (rmio2_2 l Z a0 hw [] a1 p2 wC vb k1 h0 n0 Z0 O0 qC pE1 FC FV V1) hZ (hw _ (own_w 99 rfl)) (hw _ (own_w 11 rfl)) (by decide) (by decide)) qa2 qc2 (g := (mkF m 3 #[.val (.ref a1), .val (.int p2)] [(.int 0), (.int p2), (.ref a1)])) rfl (by rw [hml]; rfl) (Steps.refl _) (argsL := [(.int p2), (.int 0)]) (rest := []) (lenOf pd_16 rfl) rfl (by show 2 * 0 + _ ≤ _; exact Nat.le_of_eq rfl) (hb hby d19_3) (fun _ _ => ⟨rfl, e0, (by decide : 0 + 0 ≤ _), (by decide : 0 + 0 ≤ _)⟩)
  dsimp only [Pt.U, Pt.locs, Pt.cells, Pt.slots] at X2 l2 y2 z2 st2 hQ2
  subst l2 y2 z2
  obtain ⟨rfl, Nq2, eq2⟩ := hQ2
  have N2 := Fr.app N0 Nq2
  have pre3 : own_Go p e below S0 (T2.setTop (mkF m 6 #[.val (.ref a1), .val (.int p2)] [(.int (own_iof2 p2))])) := by
    intro t kt
    refine pre1 t ?_
    refine st2.trans ?_
    show Steps p.tables e below (T2.setTop (mkF m 6 #[.val (.ref a1), .val (.int p2)] [(.int (own_iof2 p2))])) _
    exact kt
  obtain ⟨fs, hr, hrun, hended, hW, hsame⟩ := X2.leave (v := some (.int (own_iof2 p2))) (fun h => by rw [Bd.returns] at h; cases h)
  refine ⟨_, _, fin _ (pre3 _ ?_), hrun, hended, _, _, rfl, ?_, ⟨_, rfl⟩, hW, hsame.mono (by decide) (by decide)⟩
  · exact retI X2 hx Bd.returns (hb hby d19_6) hr
  · show Qio1_2 Z a1 p2 wC vb k1 h0 n0 _ T2.heap _
    rw [eq2]
    exact ⟨rfl, N2, rfl⟩

theorem ef_idc2 (m : MethodId) (x0 : Addr) (x1 : Int32) : entryFrame m #[(.ref x0), (.int x1)] 2 = mkF m 0 #[.val (.ref x0), .val (.int x1)] [] := by first | (simp [entryFrame, mkF, argsToLocals, Value.category]; done) | rfl
def own_id2 (p2 : Int32) : Int32 := (if (¬ p2 < (97 : Int32) ∧ ¬ (122 : Int32) < p2) then (1 : Int32) else (if (¬ p2 < (65 : Int32) ∧ ¬ (90 : Int32) < p2) then (1 : Int32) else (if (¬ p2 < (48 : Int32) ∧ ¬ (57 : Int32) < p2) then (1 : Int32) else (if (own_iof2 p2) < (0 : Int32) then (0 : Int32) else (1 : Int32)))))
def Qidc2 (Z : State) (a1 : Addr) (p2 : Int32) (wC : Int32) (pa : Addr) (vb : Addr) (k1 : ClassId) (h0 : Heap) (n0 : Nat) (v : Option Value) (h : Heap) (L : List Loc) : Prop := v = (some (.int (own_id2 p2))) ∧ Fr n0 L ∧ h = h0
set_option maxRecDepth 65536 in
set_option maxHeartbeats 40000000 in
theorem rmidc2 (l : Launch) (Z : State) (a0 : Array Value) (hw : ∀ d ∈ tables_1, d.before a0 Z = true) (ws : List Jvm.Cond) (a1 : Addr) (p2 : Int32) (wC : Int32) (pa : Addr) (vb : Addr) (k1 : ClassId) (h0 : Heap) (n0 : Nat) (Z0 : n0 ≤ h0.size) (O0 : Old Z n0 h0) (qC : (own_SC Z wC)) (pE1 : Exa Z h0 a1 "com/example/backplane/backplane/IdSyntax") (pF1 : Fld Z h0 a1 "com/example/backplane/backplane/IdSyntax" "punctuation" "Ljava/lang/String;" (.ref pa)) (pE2 : Exa Z h0 pa "java/lang/String") (FC : Fld Z h0 pa "java/lang/String" "coder" "B" (.int 0)) (FV : Fld Z h0 pa "java/lang/String" "value" "[B" (.ref vb)) (V1 : Arv Z h0 vb k1 .byte (2 : Int32) [(.int 45), (.int 95)] (.int 0)) :
    MetFree l own_m0 (head1 (Jvm.Cond.code own_m0 prog_8_method_6_code 2 (some .boolean) :: ws) (own_r 4 0 0 59)) (fun a U => a = #[(.ref a1), (.int p2)] ∧ Z.Warmed39 U.vm ∧ U.heap = h0) (fun _ _ _ _ _ => True) (fun _ U o U' => ∃ v L, o = .returned v ∧ Qidc2 Z a1 p2 wC pa vb k1 h0 n0 v U'.heap L ∧ FrameEnd U o U' L (own_r 4 0 0 59).cells (own_r 4 0 0 59).slots) := by
  refine MetFree.of_bodySF (plainFor_of_name pn_18) hisR ?_
  intro p e s m args below meth c s₁ Bd hml0 hP hK
  obtain ⟨rfl, hZ, hh⟩ := hP
  have hx := Bd.exec
  have hby := Bd.bytes
  have hml : c.maxLocals = 2 := hml0
  have hown0 := findClass_of_methodNamed Bd.named
  have hown : s.vm.findClass "com/example/backplane/backplane/IdSyntax" = some m.cls := hown0
  have hnm := (name_of_methodNamed Bd.named Bd.method).1
  have X0 : Stand p l e (own_r 4 0 0 59) s m #[(.ref a1), (.int p2)] below meth c s₁ [] 0 0 := Stand.of_body Bd
  have e0 : s₁.heap = h0 := by rw [← hh, Bd.state]; rfl
  have N0 := Fr.nil n0
  obtain ⟨S0, hS0⟩ : ∃ z, z = s₁.setTop (entryFrame m #[(.ref a1), (.int p2)] 2) := ⟨_, rfl⟩
  have pre0 : own_Go p e below S0 (s₁.setTop (mkF m 0 #[.val (.ref a1), .val (.int p2)] [])) := fun t k => by rw [hS0]; exact castTop (ef_idc2 m a1 p2) k
  have fin : ∀ t, Steps p.tables e below S0 t → Steps p.tables e below (s₁.setTop (entryFrame m #[(.ref a1), (.int p2)] 2)) t := fun t k => by rw [hS0] at k; exact k
  by_cases hA1 : (¬ p2 < (97 : Int32) ∧ ¬ (122 : Int32) < p2)
  · have pre2 : own_Go p e below S0 (s₁.setTop (mkF m 52 #[.val (.ref a1), .val (.int p2)] [(.int 1)])) := by
      intro t kt
      refine pre0 t ?_
      refine XS.iloadN X0.here hx rfl (hb hby d18_0) rfl ?_
      refine XS.bipush X0.here hx rfl (hb hby d18_1) ?_
      refine XS.icmpNo X0.here hx rfl (hb hby d18_3) rfl (flt hA1.1).1 ?_
      refine XS.iloadN X0.here hx rfl (hb hby d18_6) rfl ?_
      refine XS.bipush X0.here hx rfl (hb hby d18_7) ?_
      refine XS.icmpYes X0.here hx rfl (pc0 := 9) (pc' := 47) rfl (hb hby d18_9) rfl (flt hA1.2).2.2.2 (by decide) (by decide) ?_
      show Steps p.tables e below (s₁.setTop (mkF m 47 #[.val (.ref a1), .val (.int p2)] [])) _
      refine XS.iconst X0.here hx rfl (hb hby d18_47) ?_
      refine XS.goto X0.here hx rfl (pc0 := 48) (pc' := 52) rfl (hb hby d18_48) (by decide) (by decide) ?_
      exact kt
    obtain ⟨fs, hr, hrun, hended, hW, hsame⟩ := X0.leave (v := some (.int 1)) (fun h => by rw [Bd.returns] at h; cases h)
    refine ⟨_, _, fin _ (pre2 _ ?_), hrun, hended, _, _, rfl, ?_, ⟨_, rfl⟩, hW, hsame.mono (by decide) (by decide)⟩
    · exact retN X0 hx (t := .boolean) Bd.returns (by simp) (hb hby d18_52) hr
    · show Qidc2 Z a1 p2 wC pa vb k1 h0 n0 _ s₁.heap _
      rw [e0]
      exact ⟨(by show some _ = some _; rw [own_id2, if_pos hA1]), N0, rfl⟩
  · have pre3 : own_Go p e below S0 (s₁.setTop (mkF m 12 #[.val (.ref a1), .val (.int p2)] [])) := by
      have pre5 : own_Go p e below S0 (s₁.setTop (mkF m 3 #[.val (.ref a1), .val (.int p2)] [(.int 97), (.int p2)])) := by
        intro t kt
        refine pre0 t ?_
        refine XS.iloadN X0.here hx rfl (hb hby d18_0) rfl ?_
        refine XS.bipush X0.here hx rfl (hb hby d18_1) ?_
        exact kt
      by_cases hc4 : p2 < (97 : Int32)
      · have pre6 : own_Go p e below S0 (s₁.setTop (mkF m 12 #[.val (.ref a1), .val (.int p2)] [])) := by
          intro t kt
          refine pre5 t ?_
          refine XS.icmpYes X0.here hx rfl (pc0 := 3) (pc' := 12) rfl (hb hby d18_3) rfl (tlt hc4).1 (by decide) (by decide) ?_
          exact kt
        exact pre6
      · have pre7 : own_Go p e below S0 (s₁.setTop (mkF m 12 #[.val (.ref a1), .val (.int p2)] [])) := by
          intro t kt
          refine pre5 t ?_
          refine XS.icmpNo X0.here hx rfl (hb hby d18_3) rfl (flt hc4).1 ?_
          refine XS.iloadN X0.here hx rfl (hb hby d18_6) rfl ?_
          refine XS.bipush X0.here hx rfl (hb hby d18_7) ?_
          refine XS.icmpNo X0.here hx rfl (hb hby d18_9) rfl (tlt (Decidable.byContradiction fun q => hA1 ⟨hc4, q⟩)).2.2.2 ?_
          exact kt
        exact pre7
    by_cases hA8 : (¬ p2 < (65 : Int32) ∧ ¬ (90 : Int32) < p2)
    · have pre9 : own_Go p e below S0 (s₁.setTop (mkF m 52 #[.val (.ref a1), .val (.int p2)] [(.int 1)])) := by
        intro t kt
        refine pre3 t ?_
        refine XS.iloadN X0.here hx rfl (hb hby d18_12) rfl ?_
        refine XS.bipush X0.here hx rfl (hb hby d18_13) ?_
        refine XS.icmpNo X0.here hx rfl (hb hby d18_15) rfl (flt hA8.1).1 ?_
        refine XS.iloadN X0.here hx rfl (hb hby d18_18) rfl ?_
        refine XS.bipush X0.here hx rfl (hb hby d18_19) ?_
        refine XS.icmpYes X0.here hx rfl (pc0 := 21) (pc' := 47) rfl (hb hby d18_21) rfl (flt hA8.2).2.2.2 (by decide) (by decide) ?_
        show Steps p.tables e below (s₁.setTop (mkF m 47 #[.val (.ref a1), .val (.int p2)] [])) _
        refine XS.iconst X0.here hx rfl (hb hby d18_47) ?_
        refine XS.goto X0.here hx rfl (pc0 := 48) (pc' := 52) rfl (hb hby d18_48) (by decide) (by decide) ?_
        exact kt
      obtain ⟨fs, hr, hrun, hended, hW, hsame⟩ := X0.leave (v := some (.int 1)) (fun h => by rw [Bd.returns] at h; cases h)
      refine ⟨_, _, fin _ (pre9 _ ?_), hrun, hended, _, _, rfl, ?_, ⟨_, rfl⟩, hW, hsame.mono (by decide) (by decide)⟩
      · exact retN X0 hx (t := .boolean) Bd.returns (by simp) (hb hby d18_52) hr
      · show Qidc2 Z a1 p2 wC pa vb k1 h0 n0 _ s₁.heap _
        rw [e0]
        exact ⟨(by show some _ = some _; rw [own_id2, if_neg hA1, if_pos hA8]), N0, rfl⟩
    · have pre10 : own_Go p e below S0 (s₁.setTop (mkF m 24 #[.val (.ref a1), .val (.int p2)] [])) := by
        have pre12 : own_Go p e below S0 (s₁.setTop (mkF m 15 #[.val (.ref a1), .val (.int p2)] [(.int 65), (.int p2)])) := by
          intro t kt
          refine pre3 t ?_
          refine XS.iloadN X0.here hx rfl (hb hby d18_12) rfl ?_
          refine XS.bipush X0.here hx rfl (hb hby d18_13) ?_
          exact kt
        by_cases hc11 : p2 < (65 : Int32)
        · have pre13 : own_Go p e below S0 (s₁.setTop (mkF m 24 #[.val (.ref a1), .val (.int p2)] [])) := by
            intro t kt
            refine pre12 t ?_
            refine XS.icmpYes X0.here hx rfl (pc0 := 15) (pc' := 24) rfl (hb hby d18_15) rfl (tlt hc11).1 (by decide) (by decide) ?_
            exact kt
          exact pre13
        · have pre14 : own_Go p e below S0 (s₁.setTop (mkF m 24 #[.val (.ref a1), .val (.int p2)] [])) := by
            intro t kt
            refine pre12 t ?_
            refine XS.icmpNo X0.here hx rfl (hb hby d18_15) rfl (flt hc11).1 ?_
            refine XS.iloadN X0.here hx rfl (hb hby d18_18) rfl ?_
            refine XS.bipush X0.here hx rfl (hb hby d18_19) ?_
            refine XS.icmpNo X0.here hx rfl (hb hby d18_21) rfl (tlt (Decidable.byContradiction fun q => hA8 ⟨hc11, q⟩)).2.2.2 ?_
            exact kt
          exact pre14
      by_cases hA15 : (¬ p2 < (48 : Int32) ∧ ¬ (57 : Int32) < p2)
      · have pre16 : own_Go p e below S0 (s₁.setTop (mkF m 52 #[.val (.ref a1), .val (.int p2)] [(.int 1)])) := by
          intro t kt
          refine pre10 t ?_
          refine XS.iloadN X0.here hx rfl (hb hby d18_24) rfl ?_
          refine XS.bipush X0.here hx rfl (hb hby d18_25) ?_
          refine XS.icmpNo X0.here hx rfl (hb hby d18_27) rfl (flt hA15.1).1 ?_
          refine XS.iloadN X0.here hx rfl (hb hby d18_30) rfl ?_
          refine XS.bipush X0.here hx rfl (hb hby d18_31) ?_
          refine XS.icmpYes X0.here hx rfl (pc0 := 33) (pc' := 47) rfl (hb hby d18_33) rfl (flt hA15.2).2.2.2 (by decide) (by decide) ?_
          show Steps p.tables e below (s₁.setTop (mkF m 47 #[.val (.ref a1), .val (.int p2)] [])) _
          refine XS.iconst X0.here hx rfl (hb hby d18_47) ?_
          refine XS.goto X0.here hx rfl (pc0 := 48) (pc' := 52) rfl (hb hby d18_48) (by decide) (by decide) ?_
          exact kt
        obtain ⟨fs, hr, hrun, hended, hW, hsame⟩ := X0.leave (v := some (.int 1)) (fun h => by rw [Bd.returns] at h; cases h)
        refine ⟨_, _, fin _ (pre16 _ ?_), hrun, hended, _, _, rfl, ?_, ⟨_, rfl⟩, hW, hsame.mono (by decide) (by decide)⟩
        · exact retN X0 hx (t := .boolean) Bd.returns (by simp) (hb hby d18_52) hr
        · show Qidc2 Z a1 p2 wC pa vb k1 h0 n0 _ s₁.heap _
          rw [e0]
          exact ⟨(by show some _ = some _; rw [own_id2, if_neg hA1, if_neg hA8, if_pos hA15]), N0, rfl⟩
      · have pre17 : own_Go p e below S0 (s₁.setTop (mkF m 36 #[.val (.ref a1), .val (.int p2)] [])) := by
          have pre19 : own_Go p e below S0 (s₁.setTop (mkF m 27 #[.val (.ref a1), .val (.int p2)] [(.int 48), (.int p2)])) := by
            intro t kt
            refine pre10 t ?_
            refine XS.iloadN X0.here hx rfl (hb hby d18_24) rfl ?_
            refine XS.bipush X0.here hx rfl (hb hby d18_25) ?_
            exact kt
          by_cases hc18 : p2 < (48 : Int32)
          · have pre20 : own_Go p e below S0 (s₁.setTop (mkF m 36 #[.val (.ref a1), .val (.int p2)] [])) := by
              intro t kt
              refine pre19 t ?_
              refine XS.icmpYes X0.here hx rfl (pc0 := 27) (pc' := 36) rfl (hb hby d18_27) rfl (tlt hc18).1 (by decide) (by decide) ?_
              exact kt
            exact pre20
          · have pre21 : own_Go p e below S0 (s₁.setTop (mkF m 36 #[.val (.ref a1), .val (.int p2)] [])) := by
              intro t kt
              refine pre19 t ?_
              refine XS.icmpNo X0.here hx rfl (hb hby d18_27) rfl (flt hc18).1 ?_
              refine XS.iloadN X0.here hx rfl (hb hby d18_30) rfl ?_
              refine XS.bipush X0.here hx rfl (hb hby d18_31) ?_
              refine XS.icmpNo X0.here hx rfl (hb hby d18_33) rfl (tlt (Decidable.byContradiction fun q => hA15 ⟨hc18, q⟩)).2.2.2 ?_
              exact kt
            exact pre21
        have pre22 : own_Go p e below S0 (s₁.setTop (mkF m 37 #[.val (.ref a1), .val (.int p2)] [(.ref a1)])) := by
          intro t kt
          refine pre17 t ?_
          refine XS.aloadN X0.here hx rfl (hb hby d18_36) rfl rfl ?_
          exact kt
        obtain ⟨T23, X23, e23, st23⟩ := getF X0 hx hZ hown (host := "") (Or.inl (hw _ (own_w 88 rfl))) Via.refl e0 pF1 (g := (mkF m 37 #[.val (.ref a1), .val (.int p2)] [(.ref a1)])) rfl rfl (hb hby d18_37)
        have pre24 : own_Go p e below S0 (T23.setTop (mkF m 41 #[.val (.ref a1), .val (.int p2)] [(.int p2), (.ref pa)])) := by
          intro t kt
          refine pre22 t ?_
          refine st23 _ ?_
          refine XS.iloadN X23.here hx rfl (hb hby d18_40) rfl ?_
          exact kt
        obtain ⟨cq25, kq25, qa25, qb25, qc25⟩ := isOf hZ e23 pE2
        obtain ⟨_, _, ⟨T25, L25, k25, n25⟩, -, X25, ⟨Lc25, hQ25, l25, y25, z25⟩, st25⟩ := X23.virtualBack hx (y := own_m11) (z := own_m11) hown (mvT hZ (hw _ (own_w 90 rfl))) (mvT hZ (hw _ (own_w 91 rfl))) (notFace_of_selects (args := #[]) (mvT hZ (hw _ (own_w 93 rfl)))) (mvT hZ (hw _ (own_w 93 rfl))) (mvT hZ (hw _ (own_w 92 rfl))) (by decide) (backOf (W := 0) (rmio1_2 l Z a0 hw [] pa p2 wC vb k1 h0 n0 Z0 O0 qC pE2 FC FV V1) hZ (hw _ (own_w 94 rfl)) (hw _ (own_w 11 rfl)) (by decide) (by decide)) qa25 qc25 (g := (mkF m 41 #[.val (.ref a1), .val (.int p2)] [(.int p2), (.ref pa)])) rfl (by rw [hml]; rfl) (Steps.refl _) (argsL := [(.int p2)]) (rest := []) (lenOf pd_1 rfl) rfl (by show 2 * 0 + _ ≤ _; exact Nat.le_of_eq rfl) (hb hby d18_41) (fun _ _ => ⟨rfl, e23, (by decide : 0 + 0 ≤ _), (by decide : 0 + 0 ≤ _)⟩)
        dsimp only [Pt.U, Pt.locs, Pt.cells, Pt.slots] at X25 l25 y25 z25 st25 hQ25
        subst l25 y25 z25
        obtain ⟨rfl, Nq25, eq25⟩ := hQ25
        have N25 := Fr.app N0 Nq25
        have pre27 : own_Go p e below S0 (T25.setTop (mkF m 44 #[.val (.ref a1), .val (.int p2)] [(.int (own_iof2 p2))])) := by
          intro t kt
          refine pre24 t ?_
          refine st25.trans ?_
          show Steps p.tables e below (T25.setTop (mkF m 44 #[.val (.ref a1), .val (.int p2)] [(.int (own_iof2 p2))])) _
          exact kt
        by_cases hc26 : (own_iof2 p2) < (0 : Int32)
        · have pre28 : own_Go p e below S0 (T25.setTop (mkF m 52 #[.val (.ref a1), .val (.int p2)] [(.int 0)])) := by
            intro t kt
            refine pre27 t ?_
            refine XS.ifYes X25.here hx rfl (pc0 := 44) (pc' := 51) rfl (hb hby d18_44) rfl ((if0 _ _).trans (tlt hc26).1) (by decide) (by decide) ?_
            refine XS.iconst X25.here hx rfl (hb hby d18_51) ?_
            exact kt
          obtain ⟨fs, hr, hrun, hended, hW, hsame⟩ := X25.leave (v := some (.int 0)) (fun h => by rw [Bd.returns] at h; cases h)
          refine ⟨_, _, fin _ (pre28 _ ?_), hrun, hended, _, _, rfl, ?_, ⟨_, rfl⟩, hW, hsame.mono (by decide) (by decide)⟩
          · exact retN X25 hx (t := .boolean) Bd.returns (by simp) (hb hby d18_52) hr
          · show Qidc2 Z a1 p2 wC pa vb k1 h0 n0 _ T25.heap _
            rw [eq25]
            exact ⟨(by show some _ = some _; rw [own_id2, if_neg hA1, if_neg hA8, if_neg hA15, if_pos hc26]), N25, rfl⟩
        · have pre29 : own_Go p e below S0 (T25.setTop (mkF m 52 #[.val (.ref a1), .val (.int p2)] [(.int 1)])) := by
            intro t kt
            refine pre27 t ?_
            refine XS.ifNo X25.here hx rfl (hb hby d18_44) rfl ((if0 _ _).trans (flt hc26).1) ?_
            refine XS.iconst X25.here hx rfl (hb hby d18_47) ?_
            refine XS.goto X25.here hx rfl (pc0 := 48) (pc' := 52) rfl (hb hby d18_48) (by decide) (by decide) ?_
            exact kt
          obtain ⟨fs, hr, hrun, hended, hW, hsame⟩ := X25.leave (v := some (.int 1)) (fun h => by rw [Bd.returns] at h; cases h)
          refine ⟨_, _, fin _ (pre29 _ ?_), hrun, hended, _, _, rfl, ?_, ⟨_, rfl⟩, hW, hsame.mono (by decide) (by decide)⟩
          · exact retN X25 hx (t := .boolean) Bd.returns (by simp) (hb hby d18_52) hr
          · show Qidc2 Z a1 p2 wC pa vb k1 h0 n0 _ T25.heap _
            rw [eq25]
            exact ⟨(by show some _ = some _; rw [own_id2, if_neg hA1, if_neg hA8, if_neg hA15, if_neg hc26]), N25, rfl⟩

theorem own_iofV2 (c : Int32) : own_iof2 c < (0 : Int32) ↔ ¬ (c = 45 ∨ c = 95) := by
  have b := c_i2b c
  have f : ∀ a b : Int32, a = b ↔ a.toInt = b.toInt := fun a b => Int32.toInt_inj.symm
  have g : ∀ a b : Int32, a < b ↔ a.toInt < b.toInt := fun a b => Int32.lt_iff_toInt_lt
  have e0 : own_can c = 0 ↔ ¬ (0 ≤ c.toInt ∧ c.toInt ≤ 255) := by
    have z0 : (0 : Int32).toInt = 0 := rfl
    have z1 : (255 : Int32).toInt = 255 := rfl
    unfold own_can
    split
    · rename_i h; rw [g, z0] at h; simp; omega
    · rename_i h; rw [g, z0] at h
      split
      · rename_i h2; rw [g, z1] at h2; simp; omega
      · rename_i h2; rw [g, z1] at h2; simp; omega
  unfold own_iof2
  split
  · rename_i h
    rw [e0] at h
    simp only [f, show (45 : Int32).toInt = 45 from rfl, show (95 : Int32).toInt = 95 from rfl]
    constructor
    · intro _; omega
    · intro _; decide
  · rename_i h
    rw [e0] at h
    unfold own_ioc2
    simp only [f, show (45 : Int32).toInt = 45 from rfl, show (95 : Int32).toInt = 95 from rfl]
    repeat' split
    all_goals (constructor <;> intro h9)
    all_goals first | omega | (exact absurd h9 (by decide)) | decide

theorem own_idE2 (c : Int32) : own_al 2 c = own_id2 c := by
  have f : ∀ a b : Int32, a = b ↔ a.toInt = b.toInt := fun a b => Int32.toInt_inj.symm
  have g : ∀ a b : Int32, a < b ↔ a.toInt < b.toInt := fun a b => Int32.lt_iff_toInt_lt
  unfold own_al own_id2
  simp only [own_iofV2]
  simp only [f, g, show (0 : Int32).toInt = 0 from rfl, show (1 : Int32).toInt = 1 from rfl, show (2 : Int32).toInt = 2 from rfl, show (45 : Int32).toInt = 45 from rfl, show (46 : Int32).toInt = 46 from rfl, show (48 : Int32).toInt = 48 from rfl, show (57 : Int32).toInt = 57 from rfl, show (58 : Int32).toInt = 58 from rfl, show (65 : Int32).toInt = 65 from rfl, show (90 : Int32).toInt = 90 from rfl, show (95 : Int32).toInt = 95 from rfl, show (97 : Int32).toInt = 97 from rfl, show (122 : Int32).toInt = 122 from rfl]
  repeat' split
  all_goals first | rfl | omega | (exact absurd trivial ‹_›) | simp_all

def own_Pu (Z : State) (h : Heap) (a : Addr) (kk : Int32) : Prop := ∃ (pa pv : Addr) (pk : ClassId), Exa Z h a "com/example/backplane/backplane/IdSyntax" ∧ Fld Z h a "com/example/backplane/backplane/IdSyntax" "punctuation" "Ljava/lang/String;" (.ref pa) ∧ Exa Z h pa "java/lang/String" ∧ Fld Z h pa "java/lang/String" "coder" "B" (.int 0) ∧ Fld Z h pa "java/lang/String" "value" "[B" (.ref pv) ∧ ((kk = 0 ∧ Arv Z h pv pk .byte (3 : Int32) [(.int 46), (.int 95), (.int 45)] (.int 0)) ∨ (kk = 1 ∧ Arv Z h pv pk .byte (4 : Int32) [(.int 46), (.int 95), (.int 45), (.int 58)] (.int 0)) ∨ (kk = 2 ∧ Arv Z h pv pk .byte (2 : Int32) [(.int 45), (.int 95)] (.int 0)))

def Qidc (Z : State) (a1 : Addr) (p2 : Int32) (wC : Int32) (kk : Int32) (h0 : Heap) (n0 : Nat) (v : Option Value) (h : Heap) (L : List Loc) : Prop := v = (some (.int (own_al kk p2))) ∧ Fr n0 L ∧ h = h0
theorem rmidc (l : Launch) (Z : State) (a0 : Array Value) (hw : ∀ d ∈ tables_1, d.before a0 Z = true) (ws : List Jvm.Cond) (a1 : Addr) (p2 : Int32) (wC : Int32) (kk : Int32) (h0 : Heap) (n0 : Nat) (Z0 : n0 ≤ h0.size) (O0 : Old Z n0 h0) (qC : (own_SC Z wC)) (hP : (own_Pu Z Z.heap a1 kk)) :
    MetFree l own_m0 (head1 (Jvm.Cond.code own_m0 prog_8_method_6_code 2 (some .boolean) :: ws) (own_r 4 0 0 59)) (fun a U => a = #[(.ref a1), (.int p2)] ∧ Z.Warmed39 U.vm ∧ U.heap = h0) (fun _ _ _ _ _ => True) (fun _ U o U' => ∃ v L, o = .returned v ∧ Qidc Z a1 p2 wC kk h0 n0 v U'.heap L ∧ FrameEnd U o U' L (own_r 4 0 0 59).cells (own_r 4 0 0 59).slots) := by
  obtain ⟨pa, pv, pk, qa, qb, qc, qd, qe, ⟨hkk, qf⟩ | ⟨hkk, qf⟩ | ⟨hkk, qf⟩⟩ := hP
  · have e : own_al kk p2 = own_id0 p2 := by rw [hkk, own_idE0]
    have R := rmidc0 l Z a0 hw ws a1 p2 wC pa pv pk h0 n0 Z0 O0 qC (qa.ext O0.2) (qb.ext O0.2) (qc.ext O0.2) (qd.ext O0.2) (qe.ext O0.2) (qf.ext O0.2)
    unfold Qidc
    rw [e]
    exact R
  · have e : own_al kk p2 = own_id1 p2 := by rw [hkk, own_idE1]
    have R := rmidc1 l Z a0 hw ws a1 p2 wC pa pv pk h0 n0 Z0 O0 qC (qa.ext O0.2) (qb.ext O0.2) (qc.ext O0.2) (qd.ext O0.2) (qe.ext O0.2) (qf.ext O0.2)
    unfold Qidc
    rw [e]
    exact R
  · have e : own_al kk p2 = own_id2 p2 := by rw [hkk, own_idE2]
    have R := rmidc2 l Z a0 hw ws a1 p2 wC pa pv pk h0 n0 Z0 O0 qC (qa.ext O0.2) (qb.ext O0.2) (qc.ext O0.2) (qd.ext O0.2) (qe.ext O0.2) (qf.ext O0.2)
    unfold Qidc
    rw [e]
    exact R

theorem d9_0 : decode prog_8_method_4_code 0 = .ok (.aload_n 1, 1) := by decide +kernel
theorem d9_1 : decode prog_8_method_4_code 1 = .ok (.invokevirtual 36, 3) := by decide +kernel
theorem d9_4 : decode prog_8_method_4_code 4 = .ok (.ifCond .ne 11, 3) := by decide +kernel
theorem d9_15 : decode prog_8_method_4_code 15 = .ok (.iconst 0, 1) := by decide +kernel
theorem d9_16 : decode prog_8_method_4_code 16 = .ok (.ireturn, 1) := by decide +kernel
theorem pn_9 : plainName "com/example/backplane/backplane/IdSyntax" = true := by first | (simp [plainName, overriddenIn]; done) | decide +kernel
theorem ef_val0 (m : MethodId) (x0 : Addr) (x1 : Addr) (x2 : Int32) : entryFrame m #[(.ref x0), (.ref x1), (.int x2)] 4 = mkF m 0 #[.val (.ref x0), .val (.ref x1), .val (.int x2), .unset] [] := by first | (simp [entryFrame, mkF, argsToLocals, Value.category]; done) | rfl
def Qval0 (Z : State) (a1 : Addr) (a2 : Addr) (p3 : Int32) (wC : Int32) (wF : Value) (vb : Addr) (kb : ClassId) (h0 : Heap) (n0 : Nat) (v : Option Value) (h : Heap) (L : List Loc) : Prop := v = (some (.int 0)) ∧ Fr n0 L ∧ h = h0
set_option maxRecDepth 65536 in
set_option maxHeartbeats 40000000 in
theorem rmval0 (l : Launch) (Z : State) (a0 : Array Value) (hw : ∀ d ∈ tables_1, d.before a0 Z = true) (ws : List Jvm.Cond) (a1 : Addr) (a2 : Addr) (p3 : Int32) (wC : Int32) (wF : Value) (vb : Addr) (kb : ClassId) (h0 : Heap) (n0 : Nat) (Z0 : n0 ≤ h0.size) (O0 : Old Z n0 h0) (qC : (own_SC Z wC)) (qU : (own_SU Z)) (qF : (own_SF Z wF)) (hS : own_Str Z h0 a2 vb kb []) :
    MetFree l own_m1 (head1 (Jvm.Cond.code own_m1 prog_8_method_4_code 4 (some .boolean) :: ws) (own_r 1 0 0 12)) (fun a U => a = #[(.ref a1), (.ref a2), (.int p3)] ∧ Z.Warmed39 U.vm ∧ U.heap = h0) (fun _ _ _ _ _ => True) (fun _ U o U' => ∃ v L, o = .returned v ∧ Qval0 Z a1 a2 p3 wC wF vb kb h0 n0 v U'.heap L ∧ FrameEnd U o U' L (own_r 1 0 0 12).cells (own_r 1 0 0 12).slots) := by
  refine MetFree.of_bodySF (plainFor_of_name pn_9) hisR ?_
  intro p e s m args below meth c s₁ Bd hml0 hP hK
  obtain ⟨rfl, hZ, hh⟩ := hP
  have hx := Bd.exec
  have hby := Bd.bytes
  have hml : c.maxLocals = 4 := hml0
  have hown0 := findClass_of_methodNamed Bd.named
  have hown : s.vm.findClass "com/example/backplane/backplane/IdSyntax" = some m.cls := hown0
  have hnm := (name_of_methodNamed Bd.named Bd.method).1
  have X0 : Stand p l e (own_r 1 0 0 12) s m #[(.ref a1), (.ref a2), (.int p3)] below meth c s₁ [] 0 0 := Stand.of_body Bd
  have e0 : s₁.heap = h0 := by rw [← hh, Bd.state]; rfl
  have N0 := Fr.nil n0
  obtain ⟨S0, hS0⟩ : ∃ z, z = s₁.setTop (entryFrame m #[(.ref a1), (.ref a2), (.int p3)] 4) := ⟨_, rfl⟩
  have pre0 : own_Go p e below S0 (s₁.setTop (mkF m 0 #[.val (.ref a1), .val (.ref a2), .val (.int p3), .unset] [])) := fun t k => by rw [hS0]; exact castTop (ef_val0 m a1 a2 p3) k
  have fin : ∀ t, Steps p.tables e below S0 t → Steps p.tables e below (s₁.setTop (entryFrame m #[(.ref a1), (.ref a2), (.int p3)] 4)) t := fun t k => by rw [hS0] at k; exact k
  have pre1 : own_Go p e below S0 (s₁.setTop (mkF m 1 #[.val (.ref a1), .val (.ref a2), .val (.int p3), .unset] [(.ref a2)])) := by
    intro t kt
    refine pre0 t ?_
    refine XS.aloadN X0.here hx rfl (hb hby d9_0) rfl rfl ?_
    exact kt
  obtain ⟨cq2, kq2, qa2, qb2, qc2⟩ := isOf hZ e0 (hS).1
  obtain ⟨_, _, ⟨T2, L2, k2, n2⟩, -, X2, ⟨Lc2, hQ2, l2, y2, z2⟩, st2⟩ := X0.virtualBack hx (y := own_m13) (z := own_m13) hown (mvT hZ (hw _ (own_w 47 rfl))) (mvT hZ (hw _ (own_w 48 rfl))) (notFace_of_selects (args := #[]) (mvT hZ (hw _ (own_w 50 rfl)))) (mvT hZ (hw _ (own_w 50 rfl))) (mvT hZ (hw _ (own_w 49 rfl))) (by decide) (backOf (W := 0) (rmempty_0 l Z a0 hw [] a2 vb kb h0 n0 Z0 hS) hZ (hw _ (own_w 51 rfl)) (hw _ (own_w 11 rfl)) (by decide) (by decide)) qa2 qc2 (g := (mkF m 1 #[.val (.ref a1), .val (.ref a2), .val (.int p3), .unset] [(.ref a2)])) rfl (by rw [hml]; rfl) (Steps.refl _) (argsL := []) (rest := []) (lenOf pd_13 rfl) rfl (by show 2 * 0 + _ ≤ _; exact Nat.le_of_eq rfl) (hb hby d9_1) (fun _ _ => ⟨rfl, e0, (by decide : 0 + 0 ≤ _), (by decide : 0 + 0 ≤ _)⟩)
  dsimp only [Pt.U, Pt.locs, Pt.cells, Pt.slots] at X2 l2 y2 z2 st2 hQ2
  subst l2 y2 z2
  obtain ⟨rfl, Nq2, eq2⟩ := hQ2
  have N2 := Fr.app N0 Nq2
  have pre3 : own_Go p e below S0 (T2.setTop (mkF m 16 #[.val (.ref a1), .val (.ref a2), .val (.int p3), .unset] [(.int 0)])) := by
    intro t kt
    refine pre1 t ?_
    refine st2.trans ?_
    show Steps p.tables e below (T2.setTop (mkF m 4 #[.val (.ref a1), .val (.ref a2), .val (.int p3), .unset] [(.int 1)])) _
    refine XS.ifYes X2.here hx rfl (pc0 := 4) (pc' := 15) rfl (hb hby d9_4) rfl ((if0 _ _).trans (feq (by decide : ¬ ((1 : Int32) = (0 : Int32)))).2) (by decide) (by decide) ?_
    refine XS.iconst X2.here hx rfl (hb hby d9_15) ?_
    exact kt
  obtain ⟨fs, hr, hrun, hended, hW, hsame⟩ := X2.leave (v := some (.int 0)) (fun h => by rw [Bd.returns] at h; cases h)
  refine ⟨_, _, fin _ (pre3 _ ?_), hrun, hended, _, _, rfl, ?_, ⟨_, rfl⟩, hW, hsame.mono (by decide) (by decide)⟩
  · exact retN X2 hx (t := .boolean) Bd.returns (by simp) (hb hby d9_16) hr
  · show Qval0 Z a1 a2 p3 wC wF vb kb h0 n0 _ T2.heap _
    rw [eq2]
    exact ⟨rfl, N2, rfl⟩

def own_val1 (kk : Int32) (c0 : Int32) (p3 : Int32) : Int32 := (if p3 < (1 : Int32) then (0 : Int32) else (if (own_al kk c0) = (0 : Int32) then (0 : Int32) else (1 : Int32)))

theorem d9_7 : decode prog_8_method_4_code 7 = .ok (.aload_n 1, 1) := by decide +kernel
theorem d9_8 : decode prog_8_method_4_code 8 = .ok (.invokevirtual 42, 3) := by decide +kernel
theorem d9_11 : decode prog_8_method_4_code 11 = .ok (.iload_n 2, 1) := by decide +kernel
theorem d9_12 : decode prog_8_method_4_code 12 = .ok (.if_icmp .le 5, 3) := by decide +kernel
theorem d9_17 : decode prog_8_method_4_code 17 = .ok (.iconst 0, 1) := by decide +kernel
theorem d9_18 : decode prog_8_method_4_code 18 = .ok (.istore_n 3, 1) := by decide +kernel
theorem d9_19 : decode prog_8_method_4_code 19 = .ok (.iload_n 3, 1) := by decide +kernel
theorem d9_20 : decode prog_8_method_4_code 20 = .ok (.aload_n 1, 1) := by decide +kernel
theorem d9_21 : decode prog_8_method_4_code 21 = .ok (.invokevirtual 42, 3) := by decide +kernel
theorem d9_24 : decode prog_8_method_4_code 24 = .ok (.if_icmp .ge 23, 3) := by decide +kernel
theorem d9_27 : decode prog_8_method_4_code 27 = .ok (.aload_n 0, 1) := by decide +kernel
theorem d9_28 : decode prog_8_method_4_code 28 = .ok (.aload_n 1, 1) := by decide +kernel
theorem d9_29 : decode prog_8_method_4_code 29 = .ok (.iload_n 3, 1) := by decide +kernel
theorem d9_30 : decode prog_8_method_4_code 30 = .ok (.invokevirtual 46, 3) := by decide +kernel
theorem d9_33 : decode prog_8_method_4_code 33 = .ok (.invokevirtual 50, 3) := by decide +kernel
theorem d9_36 : decode prog_8_method_4_code 36 = .ok (.ifCond .ne 5, 3) := by decide +kernel
theorem d9_39 : decode prog_8_method_4_code 39 = .ok (.iconst 0, 1) := by decide +kernel
theorem d9_40 : decode prog_8_method_4_code 40 = .ok (.ireturn, 1) := by decide +kernel
theorem d9_41 : decode prog_8_method_4_code 41 = .ok (.iinc 3 1, 3) := by decide +kernel
theorem d9_44 : decode prog_8_method_4_code 44 = .ok (.goto (-25), 3) := by decide +kernel
theorem d9_47 : decode prog_8_method_4_code 47 = .ok (.iconst 1, 1) := by decide +kernel
theorem d9_48 : decode prog_8_method_4_code 48 = .ok (.ireturn, 1) := by decide +kernel
theorem pd_19 : parseMethodDescriptor "(I)C" = some ⟨[.int], some .char⟩ := by decide +kernel
theorem pd_20 : parseMethodDescriptor "(C)Z" = some ⟨[.char], some .boolean⟩ := by decide +kernel
theorem ef_val1 (m : MethodId) (x0 : Addr) (x1 : Addr) (x2 : Int32) : entryFrame m #[(.ref x0), (.ref x1), (.int x2)] 4 = mkF m 0 #[.val (.ref x0), .val (.ref x1), .val (.int x2), .unset] [] := by first | (simp [entryFrame, mkF, argsToLocals, Value.category]; done) | rfl
def Qval1 (Z : State) (a1 : Addr) (a2 : Addr) (p3 : Int32) (wC : Int32) (wF : Value) (vb : Addr) (kb : ClassId) (c0 : Int32) (kk : Int32) (h0 : Heap) (n0 : Nat) (v : Option Value) (h : Heap) (L : List Loc) : Prop := v = (some (.int (own_val1 kk c0 p3))) ∧ Fr n0 L ∧ h = h0
set_option maxRecDepth 65536 in
set_option maxHeartbeats 40000000 in
theorem rmval1 (l : Launch) (Z : State) (a0 : Array Value) (hw : ∀ d ∈ tables_1, d.before a0 Z = true) (ws : List Jvm.Cond) (a1 : Addr) (a2 : Addr) (p3 : Int32) (wC : Int32) (wF : Value) (vb : Addr) (kb : ClassId) (c0 : Int32) (kk : Int32) (h0 : Heap) (n0 : Nat) (Z0 : n0 ≤ h0.size) (O0 : Old Z n0 h0) (qC : (own_SC Z wC)) (qU : (own_SU Z)) (qF : (own_SF Z wF)) (hS : own_Str Z h0 a2 vb kb [c0]) (hP : (own_Pu Z Z.heap a1 kk)) :
    MetFree l own_m1 (head1 (Jvm.Cond.code own_m1 prog_8_method_4_code 4 (some .boolean) :: ws) (own_r 5 0 0 72)) (fun a U => a = #[(.ref a1), (.ref a2), (.int p3)] ∧ Z.Warmed39 U.vm ∧ U.heap = h0) (fun _ _ _ _ _ => True) (fun _ U o U' => ∃ v L, o = .returned v ∧ Qval1 Z a1 a2 p3 wC wF vb kb c0 kk h0 n0 v U'.heap L ∧ FrameEnd U o U' L (own_r 5 0 0 72).cells (own_r 5 0 0 72).slots) := by
  refine MetFree.of_bodySF (plainFor_of_name pn_9) hisR ?_
  intro p e s m args below meth c s₁ Bd hml0 hP hK
  obtain ⟨rfl, hZ, hh⟩ := hP
  have hx := Bd.exec
  have hby := Bd.bytes
  have hml : c.maxLocals = 4 := hml0
  have hown0 := findClass_of_methodNamed Bd.named
  have hown : s.vm.findClass "com/example/backplane/backplane/IdSyntax" = some m.cls := hown0
  have hnm := (name_of_methodNamed Bd.named Bd.method).1
  have X0 : Stand p l e (own_r 5 0 0 72) s m #[(.ref a1), (.ref a2), (.int p3)] below meth c s₁ [] 0 0 := Stand.of_body Bd
  have e0 : s₁.heap = h0 := by rw [← hh, Bd.state]; rfl
  have N0 := Fr.nil n0
  obtain ⟨S0, hS0⟩ : ∃ z, z = s₁.setTop (entryFrame m #[(.ref a1), (.ref a2), (.int p3)] 4) := ⟨_, rfl⟩
  have pre0 : own_Go p e below S0 (s₁.setTop (mkF m 0 #[.val (.ref a1), .val (.ref a2), .val (.int p3), .unset] [])) := fun t k => by rw [hS0]; exact castTop (ef_val1 m a1 a2 p3) k
  have fin : ∀ t, Steps p.tables e below S0 t → Steps p.tables e below (s₁.setTop (entryFrame m #[(.ref a1), (.ref a2), (.int p3)] 4)) t := fun t k => by rw [hS0] at k; exact k
  have qa : Exa Z h0 a1 "com/example/backplane/backplane/IdSyntax" := by
    obtain ⟨_, _, _, q, _⟩ := id hP
    exact q.ext O0.2
  have pre1 : own_Go p e below S0 (s₁.setTop (mkF m 1 #[.val (.ref a1), .val (.ref a2), .val (.int p3), .unset] [(.ref a2)])) := by
    intro t kt
    refine pre0 t ?_
    refine XS.aloadN X0.here hx rfl (hb hby d9_0) rfl rfl ?_
    exact kt
  obtain ⟨cq2, kq2, qa2, qb2, qc2⟩ := isOf hZ e0 (hS).1
  obtain ⟨_, _, ⟨T2, L2, k2, n2⟩, -, X2, ⟨Lc2, hQ2, l2, y2, z2⟩, st2⟩ := X0.virtualBack hx (y := own_m13) (z := own_m13) hown (mvT hZ (hw _ (own_w 47 rfl))) (mvT hZ (hw _ (own_w 48 rfl))) (notFace_of_selects (args := #[]) (mvT hZ (hw _ (own_w 50 rfl)))) (mvT hZ (hw _ (own_w 50 rfl))) (mvT hZ (hw _ (own_w 49 rfl))) (by decide) (backOf (W := 0) (rmempty_n l Z a0 hw [] a2 vb kb [c0] h0 n0 Z0 hS (by decide : ¬ (1 : Int32) = (0 : Int32)) (by decide : ¬ (2 : Int32) = (0 : Int32))) hZ (hw _ (own_w 51 rfl)) (hw _ (own_w 11 rfl)) (by decide) (by decide)) qa2 qc2 (g := (mkF m 1 #[.val (.ref a1), .val (.ref a2), .val (.int p3), .unset] [(.ref a2)])) rfl (by rw [hml]; rfl) (Steps.refl _) (argsL := []) (rest := []) (lenOf pd_13 rfl) rfl (by show 2 * 0 + _ ≤ _; exact Nat.le_of_eq rfl) (hb hby d9_1) (fun _ _ => ⟨rfl, e0, (by decide : 0 + 0 ≤ _), (by decide : 0 + 0 ≤ _)⟩)
  dsimp only [Pt.U, Pt.locs, Pt.cells, Pt.slots] at X2 l2 y2 z2 st2 hQ2
  subst l2 y2 z2
  obtain ⟨rfl, Nq2, eq2⟩ := hQ2
  have N2 := Fr.app N0 Nq2
  have pre3 : own_Go p e below S0 (T2.setTop (mkF m 8 #[.val (.ref a1), .val (.ref a2), .val (.int p3), .unset] [(.ref a2)])) := by
    intro t kt
    refine pre1 t ?_
    refine st2.trans ?_
    show Steps p.tables e below (T2.setTop (mkF m 4 #[.val (.ref a1), .val (.ref a2), .val (.int p3), .unset] [(.int 0)])) _
    refine XS.ifNo X2.here hx rfl (hb hby d9_4) rfl ((if0 _ _).trans (teq (by decide : (0 : Int32) = (0 : Int32))).2) ?_
    refine XS.aloadN X2.here hx rfl (hb hby d9_7) rfl rfl ?_
    exact kt
  obtain ⟨cq4, kq4, qa4, qb4, qc4⟩ := isOf hZ eq2 (hS).1
  obtain ⟨_, _, ⟨T4, L4, k4, n4⟩, -, X4, ⟨Lc4, hQ4, l4, y4, z4⟩, st4⟩ := X2.virtualBack hx (y := own_m15) (z := own_m15) hown (mvT hZ (hw _ (own_w 52 rfl))) (mvT hZ (hw _ (own_w 53 rfl))) (notFace_of_selects (args := #[]) (mvT hZ (hw _ (own_w 55 rfl)))) (mvT hZ (hw _ (own_w 55 rfl))) (mvT hZ (hw _ (own_w 54 rfl))) (by decide) (backOf (W := 0) (rmlength l Z a0 hw [] a2 wC vb kb [c0] h0 n0 Z0 O0 qC hS (Nat.le_of_ble_eq_true rfl)) hZ (hw _ (own_w 56 rfl)) (hw _ (own_w 11 rfl)) (by decide) (by decide)) qa4 qc4 (g := (mkF m 8 #[.val (.ref a1), .val (.ref a2), .val (.int p3), .unset] [(.ref a2)])) rfl (by rw [hml]; rfl) (Steps.refl _) (argsL := []) (rest := []) (lenOf pd_18 rfl) rfl (by show 2 * 0 + _ ≤ _; exact Nat.le_of_eq rfl) (hb hby d9_8) (fun _ _ => ⟨rfl, eq2, (by decide : 0 + 0 ≤ _), (by decide : 0 + 0 ≤ _)⟩)
  dsimp only [Pt.U, Pt.locs, Pt.cells, Pt.slots] at X4 l4 y4 z4 st4 hQ4
  subst l4 y4 z4
  obtain ⟨rfl, Nq4, eq4⟩ := hQ4
  have N4 := Fr.app N2 Nq4
  have pre5 : own_Go p e below S0 (T4.setTop (mkF m 11 #[.val (.ref a1), .val (.ref a2), .val (.int p3), .unset] [(.int (own_len [c0]))])) := by
    intro t kt
    refine pre3 t ?_
    refine st4.trans ?_
    show Steps p.tables e below (T4.setTop (mkF m 11 #[.val (.ref a1), .val (.ref a2), .val (.int p3), .unset] [(.int (own_len [c0]))])) _
    exact kt
  have pre6 : own_Go p e below S0 (T4.setTop (mkF m 11 #[.val (.ref a1), .val (.ref a2), .val (.int p3), .unset] [(.int 1)])) := by
    intro t kt
    refine pre5 t ?_
    rw [(show own_len [c0] = (1 : Int32) from rfl)]
    exact kt
  have pre8 : own_Go p e below S0 (T4.setTop (mkF m 12 #[.val (.ref a1), .val (.ref a2), .val (.int p3), .unset] [(.int p3), (.int 1)])) := by
    intro t kt
    refine pre6 t ?_
    refine XS.iloadN X4.here hx rfl (hb hby d9_11) rfl ?_
    exact kt
  by_cases hc7 : p3 < (1 : Int32)
  · have pre9 : own_Go p e below S0 (T4.setTop (mkF m 16 #[.val (.ref a1), .val (.ref a2), .val (.int p3), .unset] [(.int 0)])) := by
      intro t kt
      refine pre8 t ?_
      refine XS.icmpNo X4.here hx rfl (hb hby d9_12) rfl (tlt hc7).2.2.2 ?_
      refine XS.iconst X4.here hx rfl (hb hby d9_15) ?_
      exact kt
    obtain ⟨fs, hr, hrun, hended, hW, hsame⟩ := X4.leave (v := some (.int 0)) (fun h => by rw [Bd.returns] at h; cases h)
    refine ⟨_, _, fin _ (pre9 _ ?_), hrun, hended, _, _, rfl, ?_, ⟨_, rfl⟩, hW, hsame.mono (by decide) (by decide)⟩
    · exact retN X4 hx (t := .boolean) Bd.returns (by simp) (hb hby d9_16) hr
    · show Qval1 Z a1 a2 p3 wC wF vb kb c0 kk h0 n0 _ T4.heap _
      rw [eq4]
      exact ⟨(by show some _ = some _; rw [own_val1, if_pos hc7]), N4, rfl⟩
  · have pre10 : own_Go p e below S0 (T4.setTop (mkF m 21 #[.val (.ref a1), .val (.ref a2), .val (.int p3), .val (.int 0)] [(.ref a2), (.int 0)])) := by
      intro t kt
      refine pre8 t ?_
      refine XS.icmpYes X4.here hx rfl (pc0 := 12) (pc' := 17) rfl (hb hby d9_12) rfl (flt hc7).2.2.2 (by decide) (by decide) ?_
      refine XS.iconst X4.here hx rfl (hb hby d9_17) ?_
      refine XS.istoreN X4.here hx rfl (hb hby d9_18) rfl (l' := #[.val (.ref a1), .val (.ref a2), .val (.int p3), .val (.int 0)]) rfl ?_
      refine XS.iloadN X4.here hx rfl (hb hby d9_19) rfl ?_
      refine XS.aloadN X4.here hx rfl (hb hby d9_20) rfl rfl ?_
      exact kt
    obtain ⟨cq11, kq11, qa11, qb11, qc11⟩ := isOf hZ eq4 (hS).1
    obtain ⟨_, _, ⟨T11, L11, k11, n11⟩, -, X11, ⟨Lc11, hQ11, l11, y11, z11⟩, st11⟩ := X4.virtualBack hx (y := own_m15) (z := own_m15) hown (mvT hZ (hw _ (own_w 52 rfl))) (mvT hZ (hw _ (own_w 53 rfl))) (notFace_of_selects (args := #[]) (mvT hZ (hw _ (own_w 55 rfl)))) (mvT hZ (hw _ (own_w 55 rfl))) (mvT hZ (hw _ (own_w 54 rfl))) (by decide) (backOf (W := 1) (rmlength l Z a0 hw [] a2 wC vb kb [c0] h0 n0 Z0 O0 qC hS (Nat.le_of_ble_eq_true rfl)) hZ (hw _ (own_w 56 rfl)) (hw _ (own_w 11 rfl)) (by decide) (by decide)) qa11 qc11 (g := (mkF m 21 #[.val (.ref a1), .val (.ref a2), .val (.int p3), .val (.int 0)] [(.ref a2), (.int 0)])) rfl (by rw [hml]; rfl) (Steps.refl _) (argsL := []) (rest := [(.int 0)]) (lenOf pd_18 rfl) rfl (by show 2 * 0 + _ ≤ _; exact Nat.le_of_eq rfl) (hb hby d9_21) (fun _ _ => ⟨rfl, eq4, (by decide : 0 + 0 ≤ _), (by decide : 0 + 0 ≤ _)⟩)
    dsimp only [Pt.U, Pt.locs, Pt.cells, Pt.slots] at X11 l11 y11 z11 st11 hQ11
    subst l11 y11 z11
    obtain ⟨rfl, Nq11, eq11⟩ := hQ11
    have N11 := Fr.app N4 Nq11
    have pre12 : own_Go p e below S0 (T11.setTop (mkF m 24 #[.val (.ref a1), .val (.ref a2), .val (.int p3), .val (.int 0)] [(.int (own_len [c0])), (.int 0)])) := by
      intro t kt
      refine pre10 t ?_
      refine st11.trans ?_
      show Steps p.tables e below (T11.setTop (mkF m 24 #[.val (.ref a1), .val (.ref a2), .val (.int p3), .val (.int 0)] [(.int (own_len [c0])), (.int 0)])) _
      exact kt
    have pre13 : own_Go p e below S0 (T11.setTop (mkF m 24 #[.val (.ref a1), .val (.ref a2), .val (.int p3), .val (.int 0)] [(.int 1), (.int 0)])) := by
      intro t kt
      refine pre12 t ?_
      rw [(show own_len [c0] = (1 : Int32) from rfl)]
      exact kt
    have pre14 : own_Go p e below S0 (T11.setTop (mkF m 30 #[.val (.ref a1), .val (.ref a2), .val (.int p3), .val (.int 0)] [(.int 0), (.ref a2), (.ref a1)])) := by
      intro t kt
      refine pre13 t ?_
      refine XS.icmpNo X11.here hx rfl (hb hby d9_24) rfl (tlt (by decide : (0 : Int32) < (1 : Int32))).2.1 ?_
      refine XS.aloadN X11.here hx rfl (hb hby d9_27) rfl rfl ?_
      refine XS.aloadN X11.here hx rfl (hb hby d9_28) rfl rfl ?_
      refine XS.iloadN X11.here hx rfl (hb hby d9_29) rfl ?_
      exact kt
    obtain ⟨cq15, kq15, qa15, qb15, qc15⟩ := isOf hZ eq11 (hS).1
    obtain ⟨_, _, ⟨T15, L15, k15, n15⟩, -, X15, ⟨Lc15, hQ15, l15, y15, z15⟩, st15⟩ := X11.virtualBack hx (y := own_m8) (z := own_m8) hown (mvT hZ (hw _ (own_w 62 rfl))) (mvT hZ (hw _ (own_w 63 rfl))) (notFace_of_selects (args := #[]) (mvT hZ (hw _ (own_w 65 rfl)))) (mvT hZ (hw _ (own_w 65 rfl))) (mvT hZ (hw _ (own_w 64 rfl))) (by decide) (backOf (W := 1) (rmcharAt l Z a0 hw [] a2 (0 : Int32) wC wF vb kb [c0] c0 h0 n0 Z0 O0 qC qU qF hS (Nat.le_of_ble_eq_true rfl) (by decide) (by decide : (0 : Int32) < (1 : Int32)) rfl) hZ (hw _ (own_w 66 rfl)) (hw _ (own_w 11 rfl)) (by decide) (by decide)) qa15 qc15 (g := (mkF m 30 #[.val (.ref a1), .val (.ref a2), .val (.int p3), .val (.int 0)] [(.int 0), (.ref a2), (.ref a1)])) rfl (by rw [hml]; rfl) (Steps.refl _) (argsL := [(.int 0)]) (rest := [(.ref a1)]) (lenOf pd_19 rfl) rfl (by show 2 * 0 + _ ≤ _; exact Nat.le_of_eq rfl) (hb hby d9_30) (fun _ _ => ⟨rfl, eq11, (by decide : 0 + 0 ≤ _), (by decide : 0 + 0 ≤ _)⟩)
    dsimp only [Pt.U, Pt.locs, Pt.cells, Pt.slots] at X15 l15 y15 z15 st15 hQ15
    subst l15 y15 z15
    obtain ⟨rfl, Nq15, eq15⟩ := hQ15
    have N15 := Fr.app N11 Nq15
    have pre16 : own_Go p e below S0 (T15.setTop (mkF m 33 #[.val (.ref a1), .val (.ref a2), .val (.int p3), .val (.int 0)] [(.int c0), (.ref a1)])) := by
      intro t kt
      refine pre14 t ?_
      refine st15.trans ?_
      show Steps p.tables e below (T15.setTop (mkF m 33 #[.val (.ref a1), .val (.ref a2), .val (.int p3), .val (.int 0)] [(.int c0), (.ref a1)])) _
      exact kt
    obtain ⟨cq17, qa17, qb17⟩ := qa.cell
    obtain ⟨_, _, ⟨T17, L17, k17, n17⟩, -, X17, ⟨Lc17, hQ17, l17, y17, z17⟩, st17⟩ := X15.privateBack hx (y := own_m0) hown (mvT hZ (hw _ (own_w 84 rfl))) (mvT hZ (hw _ (own_w 85 rfl))) (own_selPriv2 (z := own_m1) rfl (by decide) (mvT hZ (hw _ (own_w 45 rfl))) (mvP hZ (hw _ (own_w 86 rfl))) (mvT hZ (hw _ (own_w 85 rfl)))) (Cond.privateMethod_at (mvP hZ (hw _ (own_w 86 rfl)) (args := #[]))) (mvT hZ (hw _ (own_w 87 rfl))) (by decide) (backOf (W := 0) (rmidc l Z a0 hw [] a1 c0 wC kk h0 n0 Z0 O0 qC hP) hZ (hw _ (own_w 87 rfl)) (hw _ (own_w 2 rfl)) (by decide) (by decide)) (g := (mkF m 33 #[.val (.ref a1), .val (.ref a2), .val (.int p3), .val (.int 0)] [(.int c0), (.ref a1)])) rfl (by rw [hml]; rfl) (Steps.refl _) (a := a1) (by rw [eq15]; exact qa17) qb17 (argsL := [(.int c0)]) (rest := []) (lenOf pd_20 rfl) rfl (by show 2 * 0 + _ ≤ _; exact Nat.le_of_eq rfl) (hb hby d9_33) (fun _ _ => ⟨rfl, eq15, (by decide : 0 + 0 ≤ _), (by decide : 0 + 0 ≤ _)⟩)
    dsimp only [Pt.U, Pt.locs, Pt.cells, Pt.slots] at X17 l17 y17 z17 st17 hQ17
    subst l17 y17 z17
    obtain ⟨rfl, Nq17, eq17⟩ := hQ17
    have N17 := Fr.app N15 Nq17
    have pre19 : own_Go p e below S0 (T17.setTop (mkF m 36 #[.val (.ref a1), .val (.ref a2), .val (.int p3), .val (.int 0)] [(.int (own_al kk c0))])) := by
      intro t kt
      refine pre16 t ?_
      refine st17.trans ?_
      show Steps p.tables e below (T17.setTop (mkF m 36 #[.val (.ref a1), .val (.ref a2), .val (.int p3), .val (.int 0)] [(.int (own_al kk c0))])) _
      exact kt
    by_cases hc18 : (own_al kk c0) = (0 : Int32)
    · have pre20 : own_Go p e below S0 (T17.setTop (mkF m 40 #[.val (.ref a1), .val (.ref a2), .val (.int p3), .val (.int 0)] [(.int 0)])) := by
        intro t kt
        refine pre19 t ?_
        refine XS.ifNo X17.here hx rfl (hb hby d9_36) rfl ((if0 _ _).trans (teq hc18).2) ?_
        refine XS.iconst X17.here hx rfl (hb hby d9_39) ?_
        exact kt
      obtain ⟨fs, hr, hrun, hended, hW, hsame⟩ := X17.leave (v := some (.int 0)) (fun h => by rw [Bd.returns] at h; cases h)
      refine ⟨_, _, fin _ (pre20 _ ?_), hrun, hended, _, _, rfl, ?_, ⟨_, rfl⟩, hW, hsame.mono (by decide) (by decide)⟩
      · exact retN X17 hx (t := .boolean) Bd.returns (by simp) (hb hby d9_40) hr
      · show Qval1 Z a1 a2 p3 wC wF vb kb c0 kk h0 n0 _ T17.heap _
        rw [eq17]
        exact ⟨(by show some _ = some _; rw [own_val1, if_neg hc7, if_pos hc18]), N17, rfl⟩
    · have pre21 : own_Go p e below S0 (T17.setTop (mkF m 21 #[.val (.ref a1), .val (.ref a2), .val (.int p3), .val (.int 1)] [(.ref a2), (.int 1)])) := by
        intro t kt
        refine pre19 t ?_
        refine XS.ifYes X17.here hx rfl (pc0 := 36) (pc' := 41) rfl (hb hby d9_36) rfl ((if0 _ _).trans (feq hc18).2) (by decide) (by decide) ?_
        refine XS.iinc X17.here hx rfl (hb hby d9_41) rfl (l' := #[.val (.ref a1), .val (.ref a2), .val (.int p3), .val (.int 1)]) rfl ?_
        refine XS.goto X17.here hx rfl (pc0 := 44) (pc' := 19) rfl (hb hby d9_44) (by decide) (by decide) ?_
        refine XS.iloadN X17.here hx rfl (hb hby d9_19) rfl ?_
        refine XS.aloadN X17.here hx rfl (hb hby d9_20) rfl rfl ?_
        exact kt
      obtain ⟨cq22, kq22, qa22, qb22, qc22⟩ := isOf hZ eq17 (hS).1
      obtain ⟨_, _, ⟨T22, L22, k22, n22⟩, -, X22, ⟨Lc22, hQ22, l22, y22, z22⟩, st22⟩ := X17.virtualBack hx (y := own_m15) (z := own_m15) hown (mvT hZ (hw _ (own_w 52 rfl))) (mvT hZ (hw _ (own_w 53 rfl))) (notFace_of_selects (args := #[]) (mvT hZ (hw _ (own_w 55 rfl)))) (mvT hZ (hw _ (own_w 55 rfl))) (mvT hZ (hw _ (own_w 54 rfl))) (by decide) (backOf (W := 1) (rmlength l Z a0 hw [] a2 wC vb kb [c0] h0 n0 Z0 O0 qC hS (Nat.le_of_ble_eq_true rfl)) hZ (hw _ (own_w 56 rfl)) (hw _ (own_w 11 rfl)) (by decide) (by decide)) qa22 qc22 (g := (mkF m 21 #[.val (.ref a1), .val (.ref a2), .val (.int p3), .val (.int 1)] [(.ref a2), (.int 1)])) rfl (by rw [hml]; rfl) (Steps.refl _) (argsL := []) (rest := [(.int 1)]) (lenOf pd_18 rfl) rfl (by show 2 * 0 + _ ≤ _; exact Nat.le_of_eq rfl) (hb hby d9_21) (fun _ _ => ⟨rfl, eq17, (by decide : 0 + 0 ≤ _), (by decide : 0 + 0 ≤ _)⟩)
      dsimp only [Pt.U, Pt.locs, Pt.cells, Pt.slots] at X22 l22 y22 z22 st22 hQ22
      subst l22 y22 z22
      obtain ⟨rfl, Nq22, eq22⟩ := hQ22
      have N22 := Fr.app N17 Nq22
      have pre23 : own_Go p e below S0 (T22.setTop (mkF m 24 #[.val (.ref a1), .val (.ref a2), .val (.int p3), .val (.int 1)] [(.int (own_len [c0])), (.int 1)])) := by
        intro t kt
        refine pre21 t ?_
        refine st22.trans ?_
        show Steps p.tables e below (T22.setTop (mkF m 24 #[.val (.ref a1), .val (.ref a2), .val (.int p3), .val (.int 1)] [(.int (own_len [c0])), (.int 1)])) _
        exact kt
      have pre24 : own_Go p e below S0 (T22.setTop (mkF m 24 #[.val (.ref a1), .val (.ref a2), .val (.int p3), .val (.int 1)] [(.int 1), (.int 1)])) := by
        intro t kt
        refine pre23 t ?_
        rw [(show own_len [c0] = (1 : Int32) from rfl)]
        exact kt
      have pre25 : own_Go p e below S0 (T22.setTop (mkF m 48 #[.val (.ref a1), .val (.ref a2), .val (.int p3), .val (.int 1)] [(.int 1)])) := by
        intro t kt
        refine pre24 t ?_
        refine XS.icmpYes X22.here hx rfl (pc0 := 24) (pc' := 47) rfl (hb hby d9_24) rfl (flt (by decide : ¬ ((1 : Int32) < (1 : Int32)))).2.1 (by decide) (by decide) ?_
        refine XS.iconst X22.here hx rfl (hb hby d9_47) ?_
        exact kt
      obtain ⟨fs, hr, hrun, hended, hW, hsame⟩ := X22.leave (v := some (.int 1)) (fun h => by rw [Bd.returns] at h; cases h)
      refine ⟨_, _, fin _ (pre25 _ ?_), hrun, hended, _, _, rfl, ?_, ⟨_, rfl⟩, hW, hsame.mono (by decide) (by decide)⟩
      · exact retN X22 hx (t := .boolean) Bd.returns (by simp) (hb hby d9_48) hr
      · show Qval1 Z a1 a2 p3 wC wF vb kb c0 kk h0 n0 _ T22.heap _
        rw [eq22]
        exact ⟨(by show some _ = some _; rw [own_val1, if_neg hc7, if_neg hc18]), N22, rfl⟩

def own_val2 (kk : Int32) (c0 : Int32) (c1 : Int32) (p3 : Int32) : Int32 := (if p3 < (2 : Int32) then (0 : Int32) else (if (own_al kk c0) = (0 : Int32) then (0 : Int32) else (if (own_al kk c1) = (0 : Int32) then (0 : Int32) else (1 : Int32))))

theorem ef_val2 (m : MethodId) (x0 : Addr) (x1 : Addr) (x2 : Int32) : entryFrame m #[(.ref x0), (.ref x1), (.int x2)] 4 = mkF m 0 #[.val (.ref x0), .val (.ref x1), .val (.int x2), .unset] [] := by first | (simp [entryFrame, mkF, argsToLocals, Value.category]; done) | rfl
def Qval2 (Z : State) (a1 : Addr) (a2 : Addr) (p3 : Int32) (wC : Int32) (wF : Value) (vb : Addr) (kb : ClassId) (c0 : Int32) (c1 : Int32) (kk : Int32) (h0 : Heap) (n0 : Nat) (v : Option Value) (h : Heap) (L : List Loc) : Prop := v = (some (.int (own_val2 kk c0 c1 p3))) ∧ Fr n0 L ∧ h = h0
set_option maxRecDepth 65536 in
set_option maxHeartbeats 40000000 in
theorem rmval2 (l : Launch) (Z : State) (a0 : Array Value) (hw : ∀ d ∈ tables_1, d.before a0 Z = true) (ws : List Jvm.Cond) (a1 : Addr) (a2 : Addr) (p3 : Int32) (wC : Int32) (wF : Value) (vb : Addr) (kb : ClassId) (c0 : Int32) (c1 : Int32) (kk : Int32) (h0 : Heap) (n0 : Nat) (Z0 : n0 ≤ h0.size) (O0 : Old Z n0 h0) (qC : (own_SC Z wC)) (qU : (own_SU Z)) (qF : (own_SF Z wF)) (hS : own_Str Z h0 a2 vb kb [c0, c1]) (hP : (own_Pu Z Z.heap a1 kk)) :
    MetFree l own_m1 (head1 (Jvm.Cond.code own_m1 prog_8_method_4_code 4 (some .boolean) :: ws) (own_r 5 0 0 72)) (fun a U => a = #[(.ref a1), (.ref a2), (.int p3)] ∧ Z.Warmed39 U.vm ∧ U.heap = h0) (fun _ _ _ _ _ => True) (fun _ U o U' => ∃ v L, o = .returned v ∧ Qval2 Z a1 a2 p3 wC wF vb kb c0 c1 kk h0 n0 v U'.heap L ∧ FrameEnd U o U' L (own_r 5 0 0 72).cells (own_r 5 0 0 72).slots) := by
  refine MetFree.of_bodySF (plainFor_of_name pn_9) hisR ?_
  intro p e s m args below meth c s₁ Bd hml0 hP hK
  obtain ⟨rfl, hZ, hh⟩ := hP
  have hx := Bd.exec
  have hby := Bd.bytes
  have hml : c.maxLocals = 4 := hml0
  have hown0 := findClass_of_methodNamed Bd.named
  have hown : s.vm.findClass "com/example/backplane/backplane/IdSyntax" = some m.cls := hown0
  have hnm := (name_of_methodNamed Bd.named Bd.method).1
  have X0 : Stand p l e (own_r 5 0 0 72) s m #[(.ref a1), (.ref a2), (.int p3)] below meth c s₁ [] 0 0 := Stand.of_body Bd
  have e0 : s₁.heap = h0 := by rw [← hh, Bd.state]; rfl
  have N0 := Fr.nil n0
  obtain ⟨S0, hS0⟩ : ∃ z, z = s₁.setTop (entryFrame m #[(.ref a1), (.ref a2), (.int p3)] 4) := ⟨_, rfl⟩
  have pre0 : own_Go p e below S0 (s₁.setTop (mkF m 0 #[.val (.ref a1), .val (.ref a2), .val (.int p3), .unset] [])) := fun t k => by rw [hS0]; exact castTop (ef_val2 m a1 a2 p3) k
  have fin : ∀ t, Steps p.tables e below S0 t → Steps p.tables e below (s₁.setTop (entryFrame m #[(.ref a1), (.ref a2), (.int p3)] 4)) t := fun t k => by rw [hS0] at k; exact k
  have qa : Exa Z h0 a1 "com/example/backplane/backplane/IdSyntax" := by
    obtain ⟨_, _, _, q, _⟩ := id hP
    exact q.ext O0.2
  have pre1 : own_Go p e below S0 (s₁.setTop (mkF m 1 #[.val (.ref a1), .val (.ref a2), .val (.int p3), .unset] [(.ref a2)])) := by
    intro t kt
    refine pre0 t ?_
    refine XS.aloadN X0.here hx rfl (hb hby d9_0) rfl rfl ?_
    exact kt
  obtain ⟨cq2, kq2, qa2, qb2, qc2⟩ := isOf hZ e0 (hS).1
  obtain ⟨_, _, ⟨T2, L2, k2, n2⟩, -, X2, ⟨Lc2, hQ2, l2, y2, z2⟩, st2⟩ := X0.virtualBack hx (y := own_m13) (z := own_m13) hown (mvT hZ (hw _ (own_w 47 rfl))) (mvT hZ (hw _ (own_w 48 rfl))) (notFace_of_selects (args := #[]) (mvT hZ (hw _ (own_w 50 rfl)))) (mvT hZ (hw _ (own_w 50 rfl))) (mvT hZ (hw _ (own_w 49 rfl))) (by decide) (backOf (W := 0) (rmempty_n l Z a0 hw [] a2 vb kb [c0, c1] h0 n0 Z0 hS (by decide : ¬ (2 : Int32) = (0 : Int32)) (by decide : ¬ (4 : Int32) = (0 : Int32))) hZ (hw _ (own_w 51 rfl)) (hw _ (own_w 11 rfl)) (by decide) (by decide)) qa2 qc2 (g := (mkF m 1 #[.val (.ref a1), .val (.ref a2), .val (.int p3), .unset] [(.ref a2)])) rfl (by rw [hml]; rfl) (Steps.refl _) (argsL := []) (rest := []) (lenOf pd_13 rfl) rfl (by show 2 * 0 + _ ≤ _; exact Nat.le_of_eq rfl) (hb hby d9_1) (fun _ _ => ⟨rfl, e0, (by decide : 0 + 0 ≤ _), (by decide : 0 + 0 ≤ _)⟩)
  dsimp only [Pt.U, Pt.locs, Pt.cells, Pt.slots] at X2 l2 y2 z2 st2 hQ2
  subst l2 y2 z2
  obtain ⟨rfl, Nq2, eq2⟩ := hQ2
  have N2 := Fr.app N0 Nq2
  have pre3 : own_Go p e below S0 (T2.setTop (mkF m 8 #[.val (.ref a1), .val (.ref a2), .val (.int p3), .unset] [(.ref a2)])) := by
    intro t kt
    refine pre1 t ?_
    refine st2.trans ?_
    show Steps p.tables e below (T2.setTop (mkF m 4 #[.val (.ref a1), .val (.ref a2), .val (.int p3), .unset] [(.int 0)])) _
    refine XS.ifNo X2.here hx rfl (hb hby d9_4) rfl ((if0 _ _).trans (teq (by decide : (0 : Int32) = (0 : Int32))).2) ?_
    refine XS.aloadN X2.here hx rfl (hb hby d9_7) rfl rfl ?_
    exact kt
  obtain ⟨cq4, kq4, qa4, qb4, qc4⟩ := isOf hZ eq2 (hS).1
  obtain ⟨_, _, ⟨T4, L4, k4, n4⟩, -, X4, ⟨Lc4, hQ4, l4, y4, z4⟩, st4⟩ := X2.virtualBack hx (y := own_m15) (z := own_m15) hown (mvT hZ (hw _ (own_w 52 rfl))) (mvT hZ (hw _ (own_w 53 rfl))) (notFace_of_selects (args := #[]) (mvT hZ (hw _ (own_w 55 rfl)))) (mvT hZ (hw _ (own_w 55 rfl))) (mvT hZ (hw _ (own_w 54 rfl))) (by decide) (backOf (W := 0) (rmlength l Z a0 hw [] a2 wC vb kb [c0, c1] h0 n0 Z0 O0 qC hS (Nat.le_of_ble_eq_true rfl)) hZ (hw _ (own_w 56 rfl)) (hw _ (own_w 11 rfl)) (by decide) (by decide)) qa4 qc4 (g := (mkF m 8 #[.val (.ref a1), .val (.ref a2), .val (.int p3), .unset] [(.ref a2)])) rfl (by rw [hml]; rfl) (Steps.refl _) (argsL := []) (rest := []) (lenOf pd_18 rfl) rfl (by show 2 * 0 + _ ≤ _; exact Nat.le_of_eq rfl) (hb hby d9_8) (fun _ _ => ⟨rfl, eq2, (by decide : 0 + 0 ≤ _), (by decide : 0 + 0 ≤ _)⟩)
  dsimp only [Pt.U, Pt.locs, Pt.cells, Pt.slots] at X4 l4 y4 z4 st4 hQ4
  subst l4 y4 z4
  obtain ⟨rfl, Nq4, eq4⟩ := hQ4
  have N4 := Fr.app N2 Nq4
  have pre5 : own_Go p e below S0 (T4.setTop (mkF m 11 #[.val (.ref a1), .val (.ref a2), .val (.int p3), .unset] [(.int (own_len [c0, c1]))])) := by
    intro t kt
    refine pre3 t ?_
    refine st4.trans ?_
    show Steps p.tables e below (T4.setTop (mkF m 11 #[.val (.ref a1), .val (.ref a2), .val (.int p3), .unset] [(.int (own_len [c0, c1]))])) _
    exact kt
  have pre6 : own_Go p e below S0 (T4.setTop (mkF m 11 #[.val (.ref a1), .val (.ref a2), .val (.int p3), .unset] [(.int 2)])) := by
    intro t kt
    refine pre5 t ?_
    rw [(show own_len [c0, c1] = (2 : Int32) from rfl)]
    exact kt
  have pre8 : own_Go p e below S0 (T4.setTop (mkF m 12 #[.val (.ref a1), .val (.ref a2), .val (.int p3), .unset] [(.int p3), (.int 2)])) := by
    intro t kt
    refine pre6 t ?_
    refine XS.iloadN X4.here hx rfl (hb hby d9_11) rfl ?_
    exact kt
  by_cases hc7 : p3 < (2 : Int32)
  · have pre9 : own_Go p e below S0 (T4.setTop (mkF m 16 #[.val (.ref a1), .val (.ref a2), .val (.int p3), .unset] [(.int 0)])) := by
      intro t kt
      refine pre8 t ?_
      refine XS.icmpNo X4.here hx rfl (hb hby d9_12) rfl (tlt hc7).2.2.2 ?_
      refine XS.iconst X4.here hx rfl (hb hby d9_15) ?_
      exact kt
    obtain ⟨fs, hr, hrun, hended, hW, hsame⟩ := X4.leave (v := some (.int 0)) (fun h => by rw [Bd.returns] at h; cases h)
    refine ⟨_, _, fin _ (pre9 _ ?_), hrun, hended, _, _, rfl, ?_, ⟨_, rfl⟩, hW, hsame.mono (by decide) (by decide)⟩
    · exact retN X4 hx (t := .boolean) Bd.returns (by simp) (hb hby d9_16) hr
    · show Qval2 Z a1 a2 p3 wC wF vb kb c0 c1 kk h0 n0 _ T4.heap _
      rw [eq4]
      exact ⟨(by show some _ = some _; rw [own_val2, if_pos hc7]), N4, rfl⟩
  · have pre10 : own_Go p e below S0 (T4.setTop (mkF m 21 #[.val (.ref a1), .val (.ref a2), .val (.int p3), .val (.int 0)] [(.ref a2), (.int 0)])) := by
      intro t kt
      refine pre8 t ?_
      refine XS.icmpYes X4.here hx rfl (pc0 := 12) (pc' := 17) rfl (hb hby d9_12) rfl (flt hc7).2.2.2 (by decide) (by decide) ?_
      refine XS.iconst X4.here hx rfl (hb hby d9_17) ?_
      refine XS.istoreN X4.here hx rfl (hb hby d9_18) rfl (l' := #[.val (.ref a1), .val (.ref a2), .val (.int p3), .val (.int 0)]) rfl ?_
      refine XS.iloadN X4.here hx rfl (hb hby d9_19) rfl ?_
      refine XS.aloadN X4.here hx rfl (hb hby d9_20) rfl rfl ?_
      exact kt
    obtain ⟨cq11, kq11, qa11, qb11, qc11⟩ := isOf hZ eq4 (hS).1
    obtain ⟨_, _, ⟨T11, L11, k11, n11⟩, -, X11, ⟨Lc11, hQ11, l11, y11, z11⟩, st11⟩ := X4.virtualBack hx (y := own_m15) (z := own_m15) hown (mvT hZ (hw _ (own_w 52 rfl))) (mvT hZ (hw _ (own_w 53 rfl))) (notFace_of_selects (args := #[]) (mvT hZ (hw _ (own_w 55 rfl)))) (mvT hZ (hw _ (own_w 55 rfl))) (mvT hZ (hw _ (own_w 54 rfl))) (by decide) (backOf (W := 1) (rmlength l Z a0 hw [] a2 wC vb kb [c0, c1] h0 n0 Z0 O0 qC hS (Nat.le_of_ble_eq_true rfl)) hZ (hw _ (own_w 56 rfl)) (hw _ (own_w 11 rfl)) (by decide) (by decide)) qa11 qc11 (g := (mkF m 21 #[.val (.ref a1), .val (.ref a2), .val (.int p3), .val (.int 0)] [(.ref a2), (.int 0)])) rfl (by rw [hml]; rfl) (Steps.refl _) (argsL := []) (rest := [(.int 0)]) (lenOf pd_18 rfl) rfl (by show 2 * 0 + _ ≤ _; exact Nat.le_of_eq rfl) (hb hby d9_21) (fun _ _ => ⟨rfl, eq4, (by decide : 0 + 0 ≤ _), (by decide : 0 + 0 ≤ _)⟩)
    dsimp only [Pt.U, Pt.locs, Pt.cells, Pt.slots] at X11 l11 y11 z11 st11 hQ11
    subst l11 y11 z11
    obtain ⟨rfl, Nq11, eq11⟩ := hQ11
    have N11 := Fr.app N4 Nq11
    have pre12 : own_Go p e below S0 (T11.setTop (mkF m 24 #[.val (.ref a1), .val (.ref a2), .val (.int p3), .val (.int 0)] [(.int (own_len [c0, c1])), (.int 0)])) := by
      intro t kt
      refine pre10 t ?_
      refine st11.trans ?_
      show Steps p.tables e below (T11.setTop (mkF m 24 #[.val (.ref a1), .val (.ref a2), .val (.int p3), .val (.int 0)] [(.int (own_len [c0, c1])), (.int 0)])) _
      exact kt
    have pre13 : own_Go p e below S0 (T11.setTop (mkF m 24 #[.val (.ref a1), .val (.ref a2), .val (.int p3), .val (.int 0)] [(.int 2), (.int 0)])) := by
      intro t kt
      refine pre12 t ?_
      rw [(show own_len [c0, c1] = (2 : Int32) from rfl)]
      exact kt
    have pre14 : own_Go p e below S0 (T11.setTop (mkF m 30 #[.val (.ref a1), .val (.ref a2), .val (.int p3), .val (.int 0)] [(.int 0), (.ref a2), (.ref a1)])) := by
      intro t kt
      refine pre13 t ?_
      refine XS.icmpNo X11.here hx rfl (hb hby d9_24) rfl (tlt (by decide : (0 : Int32) < (2 : Int32))).2.1 ?_
      refine XS.aloadN X11.here hx rfl (hb hby d9_27) rfl rfl ?_
      refine XS.aloadN X11.here hx rfl (hb hby d9_28) rfl rfl ?_
      refine XS.iloadN X11.here hx rfl (hb hby d9_29) rfl ?_
      exact kt
    obtain ⟨cq15, kq15, qa15, qb15, qc15⟩ := isOf hZ eq11 (hS).1
    obtain ⟨_, _, ⟨T15, L15, k15, n15⟩, -, X15, ⟨Lc15, hQ15, l15, y15, z15⟩, st15⟩ := X11.virtualBack hx (y := own_m8) (z := own_m8) hown (mvT hZ (hw _ (own_w 62 rfl))) (mvT hZ (hw _ (own_w 63 rfl))) (notFace_of_selects (args := #[]) (mvT hZ (hw _ (own_w 65 rfl)))) (mvT hZ (hw _ (own_w 65 rfl))) (mvT hZ (hw _ (own_w 64 rfl))) (by decide) (backOf (W := 1) (rmcharAt l Z a0 hw [] a2 (0 : Int32) wC wF vb kb [c0, c1] c0 h0 n0 Z0 O0 qC qU qF hS (Nat.le_of_ble_eq_true rfl) (by decide) (by decide : (0 : Int32) < (2 : Int32)) rfl) hZ (hw _ (own_w 66 rfl)) (hw _ (own_w 11 rfl)) (by decide) (by decide)) qa15 qc15 (g := (mkF m 30 #[.val (.ref a1), .val (.ref a2), .val (.int p3), .val (.int 0)] [(.int 0), (.ref a2), (.ref a1)])) rfl (by rw [hml]; rfl) (Steps.refl _) (argsL := [(.int 0)]) (rest := [(.ref a1)]) (lenOf pd_19 rfl) rfl (by show 2 * 0 + _ ≤ _; exact Nat.le_of_eq rfl) (hb hby d9_30) (fun _ _ => ⟨rfl, eq11, (by decide : 0 + 0 ≤ _), (by decide : 0 + 0 ≤ _)⟩)
    dsimp only [Pt.U, Pt.locs, Pt.cells, Pt.slots] at X15 l15 y15 z15 st15 hQ15
    subst l15 y15 z15
    obtain ⟨rfl, Nq15, eq15⟩ := hQ15
    have N15 := Fr.app N11 Nq15
    have pre16 : own_Go p e below S0 (T15.setTop (mkF m 33 #[.val (.ref a1), .val (.ref a2), .val (.int p3), .val (.int 0)] [(.int c0), (.ref a1)])) := by
      intro t kt
      refine pre14 t ?_
      refine st15.trans ?_
      show Steps p.tables e below (T15.setTop (mkF m 33 #[.val (.ref a1), .val (.ref a2), .val (.int p3), .val (.int 0)] [(.int c0), (.ref a1)])) _
      exact kt
    obtain ⟨cq17, qa17, qb17⟩ := qa.cell
    obtain ⟨_, _, ⟨T17, L17, k17, n17⟩, -, X17, ⟨Lc17, hQ17, l17, y17, z17⟩, st17⟩ := X15.privateBack hx (y := own_m0) hown (mvT hZ (hw _ (own_w 84 rfl))) (mvT hZ (hw _ (own_w 85 rfl))) (own_selPriv2 (z := own_m1) rfl (by decide) (mvT hZ (hw _ (own_w 45 rfl))) (mvP hZ (hw _ (own_w 86 rfl))) (mvT hZ (hw _ (own_w 85 rfl)))) (Cond.privateMethod_at (mvP hZ (hw _ (own_w 86 rfl)) (args := #[]))) (mvT hZ (hw _ (own_w 87 rfl))) (by decide) (backOf (W := 0) (rmidc l Z a0 hw [] a1 c0 wC kk h0 n0 Z0 O0 qC hP) hZ (hw _ (own_w 87 rfl)) (hw _ (own_w 2 rfl)) (by decide) (by decide)) (g := (mkF m 33 #[.val (.ref a1), .val (.ref a2), .val (.int p3), .val (.int 0)] [(.int c0), (.ref a1)])) rfl (by rw [hml]; rfl) (Steps.refl _) (a := a1) (by rw [eq15]; exact qa17) qb17 (argsL := [(.int c0)]) (rest := []) (lenOf pd_20 rfl) rfl (by show 2 * 0 + _ ≤ _; exact Nat.le_of_eq rfl) (hb hby d9_33) (fun _ _ => ⟨rfl, eq15, (by decide : 0 + 0 ≤ _), (by decide : 0 + 0 ≤ _)⟩)
    dsimp only [Pt.U, Pt.locs, Pt.cells, Pt.slots] at X17 l17 y17 z17 st17 hQ17
    subst l17 y17 z17
    obtain ⟨rfl, Nq17, eq17⟩ := hQ17
    have N17 := Fr.app N15 Nq17
    have pre19 : own_Go p e below S0 (T17.setTop (mkF m 36 #[.val (.ref a1), .val (.ref a2), .val (.int p3), .val (.int 0)] [(.int (own_al kk c0))])) := by
      intro t kt
      refine pre16 t ?_
      refine st17.trans ?_
      show Steps p.tables e below (T17.setTop (mkF m 36 #[.val (.ref a1), .val (.ref a2), .val (.int p3), .val (.int 0)] [(.int (own_al kk c0))])) _
      exact kt
    by_cases hc18 : (own_al kk c0) = (0 : Int32)
    · have pre20 : own_Go p e below S0 (T17.setTop (mkF m 40 #[.val (.ref a1), .val (.ref a2), .val (.int p3), .val (.int 0)] [(.int 0)])) := by
        intro t kt
        refine pre19 t ?_
        refine XS.ifNo X17.here hx rfl (hb hby d9_36) rfl ((if0 _ _).trans (teq hc18).2) ?_
        refine XS.iconst X17.here hx rfl (hb hby d9_39) ?_
        exact kt
      obtain ⟨fs, hr, hrun, hended, hW, hsame⟩ := X17.leave (v := some (.int 0)) (fun h => by rw [Bd.returns] at h; cases h)
      refine ⟨_, _, fin _ (pre20 _ ?_), hrun, hended, _, _, rfl, ?_, ⟨_, rfl⟩, hW, hsame.mono (by decide) (by decide)⟩
      · exact retN X17 hx (t := .boolean) Bd.returns (by simp) (hb hby d9_40) hr
      · show Qval2 Z a1 a2 p3 wC wF vb kb c0 c1 kk h0 n0 _ T17.heap _
        rw [eq17]
        exact ⟨(by show some _ = some _; rw [own_val2, if_neg hc7, if_pos hc18]), N17, rfl⟩
    · have pre21 : own_Go p e below S0 (T17.setTop (mkF m 21 #[.val (.ref a1), .val (.ref a2), .val (.int p3), .val (.int 1)] [(.ref a2), (.int 1)])) := by
        intro t kt
        refine pre19 t ?_
        refine XS.ifYes X17.here hx rfl (pc0 := 36) (pc' := 41) rfl (hb hby d9_36) rfl ((if0 _ _).trans (feq hc18).2) (by decide) (by decide) ?_
        refine XS.iinc X17.here hx rfl (hb hby d9_41) rfl (l' := #[.val (.ref a1), .val (.ref a2), .val (.int p3), .val (.int 1)]) rfl ?_
        refine XS.goto X17.here hx rfl (pc0 := 44) (pc' := 19) rfl (hb hby d9_44) (by decide) (by decide) ?_
        refine XS.iloadN X17.here hx rfl (hb hby d9_19) rfl ?_
        refine XS.aloadN X17.here hx rfl (hb hby d9_20) rfl rfl ?_
        exact kt
      obtain ⟨cq22, kq22, qa22, qb22, qc22⟩ := isOf hZ eq17 (hS).1
      obtain ⟨_, _, ⟨T22, L22, k22, n22⟩, -, X22, ⟨Lc22, hQ22, l22, y22, z22⟩, st22⟩ := X17.virtualBack hx (y := own_m15) (z := own_m15) hown (mvT hZ (hw _ (own_w 52 rfl))) (mvT hZ (hw _ (own_w 53 rfl))) (notFace_of_selects (args := #[]) (mvT hZ (hw _ (own_w 55 rfl)))) (mvT hZ (hw _ (own_w 55 rfl))) (mvT hZ (hw _ (own_w 54 rfl))) (by decide) (backOf (W := 1) (rmlength l Z a0 hw [] a2 wC vb kb [c0, c1] h0 n0 Z0 O0 qC hS (Nat.le_of_ble_eq_true rfl)) hZ (hw _ (own_w 56 rfl)) (hw _ (own_w 11 rfl)) (by decide) (by decide)) qa22 qc22 (g := (mkF m 21 #[.val (.ref a1), .val (.ref a2), .val (.int p3), .val (.int 1)] [(.ref a2), (.int 1)])) rfl (by rw [hml]; rfl) (Steps.refl _) (argsL := []) (rest := [(.int 1)]) (lenOf pd_18 rfl) rfl (by show 2 * 0 + _ ≤ _; exact Nat.le_of_eq rfl) (hb hby d9_21) (fun _ _ => ⟨rfl, eq17, (by decide : 0 + 0 ≤ _), (by decide : 0 + 0 ≤ _)⟩)
      dsimp only [Pt.U, Pt.locs, Pt.cells, Pt.slots] at X22 l22 y22 z22 st22 hQ22
      subst l22 y22 z22
      obtain ⟨rfl, Nq22, eq22⟩ := hQ22
      have N22 := Fr.app N17 Nq22
      have pre23 : own_Go p e below S0 (T22.setTop (mkF m 24 #[.val (.ref a1), .val (.ref a2), .val (.int p3), .val (.int 1)] [(.int (own_len [c0, c1])), (.int 1)])) := by
        intro t kt
        refine pre21 t ?_
        refine st22.trans ?_
        show Steps p.tables e below (T22.setTop (mkF m 24 #[.val (.ref a1), .val (.ref a2), .val (.int p3), .val (.int 1)] [(.int (own_len [c0, c1])), (.int 1)])) _
        exact kt
      have pre24 : own_Go p e below S0 (T22.setTop (mkF m 24 #[.val (.ref a1), .val (.ref a2), .val (.int p3), .val (.int 1)] [(.int 2), (.int 1)])) := by
        intro t kt
        refine pre23 t ?_
        rw [(show own_len [c0, c1] = (2 : Int32) from rfl)]
        exact kt
      have pre25 : own_Go p e below S0 (T22.setTop (mkF m 30 #[.val (.ref a1), .val (.ref a2), .val (.int p3), .val (.int 1)] [(.int 1), (.ref a2), (.ref a1)])) := by
        intro t kt
        refine pre24 t ?_
        refine XS.icmpNo X22.here hx rfl (hb hby d9_24) rfl (tlt (by decide : (1 : Int32) < (2 : Int32))).2.1 ?_
        refine XS.aloadN X22.here hx rfl (hb hby d9_27) rfl rfl ?_
        refine XS.aloadN X22.here hx rfl (hb hby d9_28) rfl rfl ?_
        refine XS.iloadN X22.here hx rfl (hb hby d9_29) rfl ?_
        exact kt
      obtain ⟨cq26, kq26, qa26, qb26, qc26⟩ := isOf hZ eq22 (hS).1
      obtain ⟨_, _, ⟨T26, L26, k26, n26⟩, -, X26, ⟨Lc26, hQ26, l26, y26, z26⟩, st26⟩ := X22.virtualBack hx (y := own_m8) (z := own_m8) hown (mvT hZ (hw _ (own_w 62 rfl))) (mvT hZ (hw _ (own_w 63 rfl))) (notFace_of_selects (args := #[]) (mvT hZ (hw _ (own_w 65 rfl)))) (mvT hZ (hw _ (own_w 65 rfl))) (mvT hZ (hw _ (own_w 64 rfl))) (by decide) (backOf (W := 1) (rmcharAt l Z a0 hw [] a2 (1 : Int32) wC wF vb kb [c0, c1] c1 h0 n0 Z0 O0 qC qU qF hS (Nat.le_of_ble_eq_true rfl) (by decide) (by decide : (1 : Int32) < (2 : Int32)) rfl) hZ (hw _ (own_w 66 rfl)) (hw _ (own_w 11 rfl)) (by decide) (by decide)) qa26 qc26 (g := (mkF m 30 #[.val (.ref a1), .val (.ref a2), .val (.int p3), .val (.int 1)] [(.int 1), (.ref a2), (.ref a1)])) rfl (by rw [hml]; rfl) (Steps.refl _) (argsL := [(.int 1)]) (rest := [(.ref a1)]) (lenOf pd_19 rfl) rfl (by show 2 * 0 + _ ≤ _; exact Nat.le_of_eq rfl) (hb hby d9_30) (fun _ _ => ⟨rfl, eq22, (by decide : 0 + 0 ≤ _), (by decide : 0 + 0 ≤ _)⟩)
      dsimp only [Pt.U, Pt.locs, Pt.cells, Pt.slots] at X26 l26 y26 z26 st26 hQ26
      subst l26 y26 z26
      obtain ⟨rfl, Nq26, eq26⟩ := hQ26
      have N26 := Fr.app N22 Nq26
      have pre27 : own_Go p e below S0 (T26.setTop (mkF m 33 #[.val (.ref a1), .val (.ref a2), .val (.int p3), .val (.int 1)] [(.int c1), (.ref a1)])) := by
        intro t kt
        refine pre25 t ?_
        refine st26.trans ?_
        show Steps p.tables e below (T26.setTop (mkF m 33 #[.val (.ref a1), .val (.ref a2), .val (.int p3), .val (.int 1)] [(.int c1), (.ref a1)])) _
        exact kt
      obtain ⟨cq28, qa28, qb28⟩ := qa.cell
      obtain ⟨_, _, ⟨T28, L28, k28, n28⟩, -, X28, ⟨Lc28, hQ28, l28, y28, z28⟩, st28⟩ := X26.privateBack hx (y := own_m0) hown (mvT hZ (hw _ (own_w 84 rfl))) (mvT hZ (hw _ (own_w 85 rfl))) (own_selPriv2 (z := own_m1) rfl (by decide) (mvT hZ (hw _ (own_w 45 rfl))) (mvP hZ (hw _ (own_w 86 rfl))) (mvT hZ (hw _ (own_w 85 rfl)))) (Cond.privateMethod_at (mvP hZ (hw _ (own_w 86 rfl)) (args := #[]))) (mvT hZ (hw _ (own_w 87 rfl))) (by decide) (backOf (W := 0) (rmidc l Z a0 hw [] a1 c1 wC kk h0 n0 Z0 O0 qC hP) hZ (hw _ (own_w 87 rfl)) (hw _ (own_w 2 rfl)) (by decide) (by decide)) (g := (mkF m 33 #[.val (.ref a1), .val (.ref a2), .val (.int p3), .val (.int 1)] [(.int c1), (.ref a1)])) rfl (by rw [hml]; rfl) (Steps.refl _) (a := a1) (by rw [eq26]; exact qa28) qb28 (argsL := [(.int c1)]) (rest := []) (lenOf pd_20 rfl) rfl (by show 2 * 0 + _ ≤ _; exact Nat.le_of_eq rfl) (hb hby d9_33) (fun _ _ => ⟨rfl, eq26, (by decide : 0 + 0 ≤ _), (by decide : 0 + 0 ≤ _)⟩)
      dsimp only [Pt.U, Pt.locs, Pt.cells, Pt.slots] at X28 l28 y28 z28 st28 hQ28
      subst l28 y28 z28
      obtain ⟨rfl, Nq28, eq28⟩ := hQ28
      have N28 := Fr.app N26 Nq28
      have pre30 : own_Go p e below S0 (T28.setTop (mkF m 36 #[.val (.ref a1), .val (.ref a2), .val (.int p3), .val (.int 1)] [(.int (own_al kk c1))])) := by
        intro t kt
        refine pre27 t ?_
        refine st28.trans ?_
        show Steps p.tables e below (T28.setTop (mkF m 36 #[.val (.ref a1), .val (.ref a2), .val (.int p3), .val (.int 1)] [(.int (own_al kk c1))])) _
        exact kt
      by_cases hc29 : (own_al kk c1) = (0 : Int32)
      · have pre31 : own_Go p e below S0 (T28.setTop (mkF m 40 #[.val (.ref a1), .val (.ref a2), .val (.int p3), .val (.int 1)] [(.int 0)])) := by
          intro t kt
          refine pre30 t ?_
          refine XS.ifNo X28.here hx rfl (hb hby d9_36) rfl ((if0 _ _).trans (teq hc29).2) ?_
          refine XS.iconst X28.here hx rfl (hb hby d9_39) ?_
          exact kt
        obtain ⟨fs, hr, hrun, hended, hW, hsame⟩ := X28.leave (v := some (.int 0)) (fun h => by rw [Bd.returns] at h; cases h)
        refine ⟨_, _, fin _ (pre31 _ ?_), hrun, hended, _, _, rfl, ?_, ⟨_, rfl⟩, hW, hsame.mono (by decide) (by decide)⟩
        · exact retN X28 hx (t := .boolean) Bd.returns (by simp) (hb hby d9_40) hr
        · show Qval2 Z a1 a2 p3 wC wF vb kb c0 c1 kk h0 n0 _ T28.heap _
          rw [eq28]
          exact ⟨(by show some _ = some _; rw [own_val2, if_neg hc7, if_neg hc18, if_pos hc29]), N28, rfl⟩
      · have pre32 : own_Go p e below S0 (T28.setTop (mkF m 21 #[.val (.ref a1), .val (.ref a2), .val (.int p3), .val (.int 2)] [(.ref a2), (.int 2)])) := by
          intro t kt
          refine pre30 t ?_
          refine XS.ifYes X28.here hx rfl (pc0 := 36) (pc' := 41) rfl (hb hby d9_36) rfl ((if0 _ _).trans (feq hc29).2) (by decide) (by decide) ?_
          refine XS.iinc X28.here hx rfl (hb hby d9_41) rfl (l' := #[.val (.ref a1), .val (.ref a2), .val (.int p3), .val (.int 2)]) rfl ?_
          refine XS.goto X28.here hx rfl (pc0 := 44) (pc' := 19) rfl (hb hby d9_44) (by decide) (by decide) ?_
          refine XS.iloadN X28.here hx rfl (hb hby d9_19) rfl ?_
          refine XS.aloadN X28.here hx rfl (hb hby d9_20) rfl rfl ?_
          exact kt
        obtain ⟨cq33, kq33, qa33, qb33, qc33⟩ := isOf hZ eq28 (hS).1
        obtain ⟨_, _, ⟨T33, L33, k33, n33⟩, -, X33, ⟨Lc33, hQ33, l33, y33, z33⟩, st33⟩ := X28.virtualBack hx (y := own_m15) (z := own_m15) hown (mvT hZ (hw _ (own_w 52 rfl))) (mvT hZ (hw _ (own_w 53 rfl))) (notFace_of_selects (args := #[]) (mvT hZ (hw _ (own_w 55 rfl)))) (mvT hZ (hw _ (own_w 55 rfl))) (mvT hZ (hw _ (own_w 54 rfl))) (by decide) (backOf (W := 1) (rmlength l Z a0 hw [] a2 wC vb kb [c0, c1] h0 n0 Z0 O0 qC hS (Nat.le_of_ble_eq_true rfl)) hZ (hw _ (own_w 56 rfl)) (hw _ (own_w 11 rfl)) (by decide) (by decide)) qa33 qc33 (g := (mkF m 21 #[.val (.ref a1), .val (.ref a2), .val (.int p3), .val (.int 2)] [(.ref a2), (.int 2)])) rfl (by rw [hml]; rfl) (Steps.refl _) (argsL := []) (rest := [(.int 2)]) (lenOf pd_18 rfl) rfl (by show 2 * 0 + _ ≤ _; exact Nat.le_of_eq rfl) (hb hby d9_21) (fun _ _ => ⟨rfl, eq28, (by decide : 0 + 0 ≤ _), (by decide : 0 + 0 ≤ _)⟩)
        dsimp only [Pt.U, Pt.locs, Pt.cells, Pt.slots] at X33 l33 y33 z33 st33 hQ33
        subst l33 y33 z33
        obtain ⟨rfl, Nq33, eq33⟩ := hQ33
        have N33 := Fr.app N28 Nq33
        have pre34 : own_Go p e below S0 (T33.setTop (mkF m 24 #[.val (.ref a1), .val (.ref a2), .val (.int p3), .val (.int 2)] [(.int (own_len [c0, c1])), (.int 2)])) := by
          intro t kt
          refine pre32 t ?_
          refine st33.trans ?_
          show Steps p.tables e below (T33.setTop (mkF m 24 #[.val (.ref a1), .val (.ref a2), .val (.int p3), .val (.int 2)] [(.int (own_len [c0, c1])), (.int 2)])) _
          exact kt
        have pre35 : own_Go p e below S0 (T33.setTop (mkF m 24 #[.val (.ref a1), .val (.ref a2), .val (.int p3), .val (.int 2)] [(.int 2), (.int 2)])) := by
          intro t kt
          refine pre34 t ?_
          rw [(show own_len [c0, c1] = (2 : Int32) from rfl)]
          exact kt
        have pre36 : own_Go p e below S0 (T33.setTop (mkF m 48 #[.val (.ref a1), .val (.ref a2), .val (.int p3), .val (.int 2)] [(.int 1)])) := by
          intro t kt
          refine pre35 t ?_
          refine XS.icmpYes X33.here hx rfl (pc0 := 24) (pc' := 47) rfl (hb hby d9_24) rfl (flt (by decide : ¬ ((2 : Int32) < (2 : Int32)))).2.1 (by decide) (by decide) ?_
          refine XS.iconst X33.here hx rfl (hb hby d9_47) ?_
          exact kt
        obtain ⟨fs, hr, hrun, hended, hW, hsame⟩ := X33.leave (v := some (.int 1)) (fun h => by rw [Bd.returns] at h; cases h)
        refine ⟨_, _, fin _ (pre36 _ ?_), hrun, hended, _, _, rfl, ?_, ⟨_, rfl⟩, hW, hsame.mono (by decide) (by decide)⟩
        · exact retN X33 hx (t := .boolean) Bd.returns (by simp) (hb hby d9_48) hr
        · show Qval2 Z a1 a2 p3 wC wF vb kb c0 c1 kk h0 n0 _ T33.heap _
          rw [eq33]
          exact ⟨(by show some _ = some _; rw [own_val2, if_neg hc7, if_neg hc18, if_neg hc29]), N33, rfl⟩

def own_val3 (kk : Int32) (c0 : Int32) (c1 : Int32) (c2 : Int32) (p3 : Int32) : Int32 := (if p3 < (3 : Int32) then (0 : Int32) else (if (own_al kk c0) = (0 : Int32) then (0 : Int32) else (if (own_al kk c1) = (0 : Int32) then (0 : Int32) else (if (own_al kk c2) = (0 : Int32) then (0 : Int32) else (1 : Int32)))))

theorem ef_val3 (m : MethodId) (x0 : Addr) (x1 : Addr) (x2 : Int32) : entryFrame m #[(.ref x0), (.ref x1), (.int x2)] 4 = mkF m 0 #[.val (.ref x0), .val (.ref x1), .val (.int x2), .unset] [] := by first | (simp [entryFrame, mkF, argsToLocals, Value.category]; done) | rfl
def Qval3 (Z : State) (a1 : Addr) (a2 : Addr) (p3 : Int32) (wC : Int32) (wF : Value) (vb : Addr) (kb : ClassId) (c0 : Int32) (c1 : Int32) (c2 : Int32) (kk : Int32) (h0 : Heap) (n0 : Nat) (v : Option Value) (h : Heap) (L : List Loc) : Prop := v = (some (.int (own_val3 kk c0 c1 c2 p3))) ∧ Fr n0 L ∧ h = h0
set_option maxRecDepth 65536 in
set_option maxHeartbeats 40000000 in
theorem rmval3 (l : Launch) (Z : State) (a0 : Array Value) (hw : ∀ d ∈ tables_1, d.before a0 Z = true) (ws : List Jvm.Cond) (a1 : Addr) (a2 : Addr) (p3 : Int32) (wC : Int32) (wF : Value) (vb : Addr) (kb : ClassId) (c0 : Int32) (c1 : Int32) (c2 : Int32) (kk : Int32) (h0 : Heap) (n0 : Nat) (Z0 : n0 ≤ h0.size) (O0 : Old Z n0 h0) (qC : (own_SC Z wC)) (qU : (own_SU Z)) (qF : (own_SF Z wF)) (hS : own_Str Z h0 a2 vb kb [c0, c1, c2]) (hP : (own_Pu Z Z.heap a1 kk)) :
    MetFree l own_m1 (head1 (Jvm.Cond.code own_m1 prog_8_method_4_code 4 (some .boolean) :: ws) (own_r 5 0 0 72)) (fun a U => a = #[(.ref a1), (.ref a2), (.int p3)] ∧ Z.Warmed39 U.vm ∧ U.heap = h0) (fun _ _ _ _ _ => True) (fun _ U o U' => ∃ v L, o = .returned v ∧ Qval3 Z a1 a2 p3 wC wF vb kb c0 c1 c2 kk h0 n0 v U'.heap L ∧ FrameEnd U o U' L (own_r 5 0 0 72).cells (own_r 5 0 0 72).slots) := by
  refine MetFree.of_bodySF (plainFor_of_name pn_9) hisR ?_
  intro p e s m args below meth c s₁ Bd hml0 hP hK
  obtain ⟨rfl, hZ, hh⟩ := hP
  have hx := Bd.exec
  have hby := Bd.bytes
  have hml : c.maxLocals = 4 := hml0
  have hown0 := findClass_of_methodNamed Bd.named
  have hown : s.vm.findClass "com/example/backplane/backplane/IdSyntax" = some m.cls := hown0
  have hnm := (name_of_methodNamed Bd.named Bd.method).1
  have X0 : Stand p l e (own_r 5 0 0 72) s m #[(.ref a1), (.ref a2), (.int p3)] below meth c s₁ [] 0 0 := Stand.of_body Bd
  have e0 : s₁.heap = h0 := by rw [← hh, Bd.state]; rfl
  have N0 := Fr.nil n0
  obtain ⟨S0, hS0⟩ : ∃ z, z = s₁.setTop (entryFrame m #[(.ref a1), (.ref a2), (.int p3)] 4) := ⟨_, rfl⟩
  have pre0 : own_Go p e below S0 (s₁.setTop (mkF m 0 #[.val (.ref a1), .val (.ref a2), .val (.int p3), .unset] [])) := fun t k => by rw [hS0]; exact castTop (ef_val3 m a1 a2 p3) k
  have fin : ∀ t, Steps p.tables e below S0 t → Steps p.tables e below (s₁.setTop (entryFrame m #[(.ref a1), (.ref a2), (.int p3)] 4)) t := fun t k => by rw [hS0] at k; exact k
  have qa : Exa Z h0 a1 "com/example/backplane/backplane/IdSyntax" := by
    obtain ⟨_, _, _, q, _⟩ := id hP
    exact q.ext O0.2
  have pre1 : own_Go p e below S0 (s₁.setTop (mkF m 1 #[.val (.ref a1), .val (.ref a2), .val (.int p3), .unset] [(.ref a2)])) := by
    intro t kt
    refine pre0 t ?_
    refine XS.aloadN X0.here hx rfl (hb hby d9_0) rfl rfl ?_
    exact kt
  obtain ⟨cq2, kq2, qa2, qb2, qc2⟩ := isOf hZ e0 (hS).1
  obtain ⟨_, _, ⟨T2, L2, k2, n2⟩, -, X2, ⟨Lc2, hQ2, l2, y2, z2⟩, st2⟩ := X0.virtualBack hx (y := own_m13) (z := own_m13) hown (mvT hZ (hw _ (own_w 47 rfl))) (mvT hZ (hw _ (own_w 48 rfl))) (notFace_of_selects (args := #[]) (mvT hZ (hw _ (own_w 50 rfl)))) (mvT hZ (hw _ (own_w 50 rfl))) (mvT hZ (hw _ (own_w 49 rfl))) (by decide) (backOf (W := 0) (rmempty_n l Z a0 hw [] a2 vb kb [c0, c1, c2] h0 n0 Z0 hS (by decide : ¬ (3 : Int32) = (0 : Int32)) (by decide : ¬ (6 : Int32) = (0 : Int32))) hZ (hw _ (own_w 51 rfl)) (hw _ (own_w 11 rfl)) (by decide) (by decide)) qa2 qc2 (g := (mkF m 1 #[.val (.ref a1), .val (.ref a2), .val (.int p3), .unset] [(.ref a2)])) rfl (by rw [hml]; rfl) (Steps.refl _) (argsL := []) (rest := []) (lenOf pd_13 rfl) rfl (by show 2 * 0 + _ ≤ _; exact Nat.le_of_eq rfl) (hb hby d9_1) (fun _ _ => ⟨rfl, e0, (by decide : 0 + 0 ≤ _), (by decide : 0 + 0 ≤ _)⟩)
  dsimp only [Pt.U, Pt.locs, Pt.cells, Pt.slots] at X2 l2 y2 z2 st2 hQ2
  subst l2 y2 z2
  obtain ⟨rfl, Nq2, eq2⟩ := hQ2
  have N2 := Fr.app N0 Nq2
  have pre3 : own_Go p e below S0 (T2.setTop (mkF m 8 #[.val (.ref a1), .val (.ref a2), .val (.int p3), .unset] [(.ref a2)])) := by
    intro t kt
    refine pre1 t ?_
    refine st2.trans ?_
    show Steps p.tables e below (T2.setTop (mkF m 4 #[.val (.ref a1), .val (.ref a2), .val (.int p3), .unset] [(.int 0)])) _
    refine XS.ifNo X2.here hx rfl (hb hby d9_4) rfl ((if0 _ _).trans (teq (by decide : (0 : Int32) = (0 : Int32))).2) ?_
    refine XS.aloadN X2.here hx rfl (hb hby d9_7) rfl rfl ?_
    exact kt
  obtain ⟨cq4, kq4, qa4, qb4, qc4⟩ := isOf hZ eq2 (hS).1
  obtain ⟨_, _, ⟨T4, L4, k4, n4⟩, -, X4, ⟨Lc4, hQ4, l4, y4, z4⟩, st4⟩ := X2.virtualBack hx (y := own_m15) (z := own_m15) hown (mvT hZ (hw _ (own_w 52 rfl))) (mvT hZ (hw _ (own_w 53 rfl))) (notFace_of_selects (args := #[]) (mvT hZ (hw _ (own_w 55 rfl)))) (mvT hZ (hw _ (own_w 55 rfl))) (mvT hZ (hw _ (own_w 54 rfl))) (by decide) (backOf (W := 0) (rmlength l Z a0 hw [] a2 wC vb kb [c0, c1, c2] h0 n0 Z0 O0 qC hS (Nat.le_of_ble_eq_true rfl)) hZ (hw _ (own_w 56 rfl)) (hw _ (own_w 11 rfl)) (by decide) (by decide)) qa4 qc4 (g := (mkF m 8 #[.val (.ref a1), .val (.ref a2), .val (.int p3), .unset] [(.ref a2)])) rfl (by rw [hml]; rfl) (Steps.refl _) (argsL := []) (rest := []) (lenOf pd_18 rfl) rfl (by show 2 * 0 + _ ≤ _; exact Nat.le_of_eq rfl) (hb hby d9_8) (fun _ _ => ⟨rfl, eq2, (by decide : 0 + 0 ≤ _), (by decide : 0 + 0 ≤ _)⟩)
  dsimp only [Pt.U, Pt.locs, Pt.cells, Pt.slots] at X4 l4 y4 z4 st4 hQ4
  subst l4 y4 z4
  obtain ⟨rfl, Nq4, eq4⟩ := hQ4
  have N4 := Fr.app N2 Nq4
  have pre5 : own_Go p e below S0 (T4.setTop (mkF m 11 #[.val (.ref a1), .val (.ref a2), .val (.int p3), .unset] [(.int (own_len [c0, c1, c2]))])) := by
    intro t kt
    refine pre3 t ?_
    refine st4.trans ?_
    show Steps p.tables e below (T4.setTop (mkF m 11 #[.val (.ref a1), .val (.ref a2), .val (.int p3), .unset] [(.int (own_len [c0, c1, c2]))])) _
    exact kt
  have pre6 : own_Go p e below S0 (T4.setTop (mkF m 11 #[.val (.ref a1), .val (.ref a2), .val (.int p3), .unset] [(.int 3)])) := by
    intro t kt
    refine pre5 t ?_
    rw [(show own_len [c0, c1, c2] = (3 : Int32) from rfl)]
    exact kt
  have pre8 : own_Go p e below S0 (T4.setTop (mkF m 12 #[.val (.ref a1), .val (.ref a2), .val (.int p3), .unset] [(.int p3), (.int 3)])) := by
    intro t kt
    refine pre6 t ?_
    refine XS.iloadN X4.here hx rfl (hb hby d9_11) rfl ?_
    exact kt
  by_cases hc7 : p3 < (3 : Int32)
  · have pre9 : own_Go p e below S0 (T4.setTop (mkF m 16 #[.val (.ref a1), .val (.ref a2), .val (.int p3), .unset] [(.int 0)])) := by
      intro t kt
      refine pre8 t ?_
      refine XS.icmpNo X4.here hx rfl (hb hby d9_12) rfl (tlt hc7).2.2.2 ?_
      refine XS.iconst X4.here hx rfl (hb hby d9_15) ?_
      exact kt
    obtain ⟨fs, hr, hrun, hended, hW, hsame⟩ := X4.leave (v := some (.int 0)) (fun h => by rw [Bd.returns] at h; cases h)
    refine ⟨_, _, fin _ (pre9 _ ?_), hrun, hended, _, _, rfl, ?_, ⟨_, rfl⟩, hW, hsame.mono (by decide) (by decide)⟩
    · exact retN X4 hx (t := .boolean) Bd.returns (by simp) (hb hby d9_16) hr
    · show Qval3 Z a1 a2 p3 wC wF vb kb c0 c1 c2 kk h0 n0 _ T4.heap _
      rw [eq4]
      exact ⟨(by show some _ = some _; rw [own_val3, if_pos hc7]), N4, rfl⟩
  · have pre10 : own_Go p e below S0 (T4.setTop (mkF m 21 #[.val (.ref a1), .val (.ref a2), .val (.int p3), .val (.int 0)] [(.ref a2), (.int 0)])) := by
      intro t kt
      refine pre8 t ?_
      refine XS.icmpYes X4.here hx rfl (pc0 := 12) (pc' := 17) rfl (hb hby d9_12) rfl (flt hc7).2.2.2 (by decide) (by decide) ?_
      refine XS.iconst X4.here hx rfl (hb hby d9_17) ?_
      refine XS.istoreN X4.here hx rfl (hb hby d9_18) rfl (l' := #[.val (.ref a1), .val (.ref a2), .val (.int p3), .val (.int 0)]) rfl ?_
      refine XS.iloadN X4.here hx rfl (hb hby d9_19) rfl ?_
      refine XS.aloadN X4.here hx rfl (hb hby d9_20) rfl rfl ?_
      exact kt
    obtain ⟨cq11, kq11, qa11, qb11, qc11⟩ := isOf hZ eq4 (hS).1
    obtain ⟨_, _, ⟨T11, L11, k11, n11⟩, -, X11, ⟨Lc11, hQ11, l11, y11, z11⟩, st11⟩ := X4.virtualBack hx (y := own_m15) (z := own_m15) hown (mvT hZ (hw _ (own_w 52 rfl))) (mvT hZ (hw _ (own_w 53 rfl))) (notFace_of_selects (args := #[]) (mvT hZ (hw _ (own_w 55 rfl)))) (mvT hZ (hw _ (own_w 55 rfl))) (mvT hZ (hw _ (own_w 54 rfl))) (by decide) (backOf (W := 1) (rmlength l Z a0 hw [] a2 wC vb kb [c0, c1, c2] h0 n0 Z0 O0 qC hS (Nat.le_of_ble_eq_true rfl)) hZ (hw _ (own_w 56 rfl)) (hw _ (own_w 11 rfl)) (by decide) (by decide)) qa11 qc11 (g := (mkF m 21 #[.val (.ref a1), .val (.ref a2), .val (.int p3), .val (.int 0)] [(.ref a2), (.int 0)])) rfl (by rw [hml]; rfl) (Steps.refl _) (argsL := []) (rest := [(.int 0)]) (lenOf pd_18 rfl) rfl (by show 2 * 0 + _ ≤ _; exact Nat.le_of_eq rfl) (hb hby d9_21) (fun _ _ => ⟨rfl, eq4, (by decide : 0 + 0 ≤ _), (by decide : 0 + 0 ≤ _)⟩)
    dsimp only [Pt.U, Pt.locs, Pt.cells, Pt.slots] at X11 l11 y11 z11 st11 hQ11
    subst l11 y11 z11
    obtain ⟨rfl, Nq11, eq11⟩ := hQ11
    have N11 := Fr.app N4 Nq11
    have pre12 : own_Go p e below S0 (T11.setTop (mkF m 24 #[.val (.ref a1), .val (.ref a2), .val (.int p3), .val (.int 0)] [(.int (own_len [c0, c1, c2])), (.int 0)])) := by
      intro t kt
      refine pre10 t ?_
      refine st11.trans ?_
      show Steps p.tables e below (T11.setTop (mkF m 24 #[.val (.ref a1), .val (.ref a2), .val (.int p3), .val (.int 0)] [(.int (own_len [c0, c1, c2])), (.int 0)])) _
      exact kt
    have pre13 : own_Go p e below S0 (T11.setTop (mkF m 24 #[.val (.ref a1), .val (.ref a2), .val (.int p3), .val (.int 0)] [(.int 3), (.int 0)])) := by
      intro t kt
      refine pre12 t ?_
      rw [(show own_len [c0, c1, c2] = (3 : Int32) from rfl)]
      exact kt
    have pre14 : own_Go p e below S0 (T11.setTop (mkF m 30 #[.val (.ref a1), .val (.ref a2), .val (.int p3), .val (.int 0)] [(.int 0), (.ref a2), (.ref a1)])) := by
      intro t kt
      refine pre13 t ?_
      refine XS.icmpNo X11.here hx rfl (hb hby d9_24) rfl (tlt (by decide : (0 : Int32) < (3 : Int32))).2.1 ?_
      refine XS.aloadN X11.here hx rfl (hb hby d9_27) rfl rfl ?_
      refine XS.aloadN X11.here hx rfl (hb hby d9_28) rfl rfl ?_
      refine XS.iloadN X11.here hx rfl (hb hby d9_29) rfl ?_
      exact kt
    obtain ⟨cq15, kq15, qa15, qb15, qc15⟩ := isOf hZ eq11 (hS).1
    obtain ⟨_, _, ⟨T15, L15, k15, n15⟩, -, X15, ⟨Lc15, hQ15, l15, y15, z15⟩, st15⟩ := X11.virtualBack hx (y := own_m8) (z := own_m8) hown (mvT hZ (hw _ (own_w 62 rfl))) (mvT hZ (hw _ (own_w 63 rfl))) (notFace_of_selects (args := #[]) (mvT hZ (hw _ (own_w 65 rfl)))) (mvT hZ (hw _ (own_w 65 rfl))) (mvT hZ (hw _ (own_w 64 rfl))) (by decide) (backOf (W := 1) (rmcharAt l Z a0 hw [] a2 (0 : Int32) wC wF vb kb [c0, c1, c2] c0 h0 n0 Z0 O0 qC qU qF hS (Nat.le_of_ble_eq_true rfl) (by decide) (by decide : (0 : Int32) < (3 : Int32)) rfl) hZ (hw _ (own_w 66 rfl)) (hw _ (own_w 11 rfl)) (by decide) (by decide)) qa15 qc15 (g := (mkF m 30 #[.val (.ref a1), .val (.ref a2), .val (.int p3), .val (.int 0)] [(.int 0), (.ref a2), (.ref a1)])) rfl (by rw [hml]; rfl) (Steps.refl _) (argsL := [(.int 0)]) (rest := [(.ref a1)]) (lenOf pd_19 rfl) rfl (by show 2 * 0 + _ ≤ _; exact Nat.le_of_eq rfl) (hb hby d9_30) (fun _ _ => ⟨rfl, eq11, (by decide : 0 + 0 ≤ _), (by decide : 0 + 0 ≤ _)⟩)
    dsimp only [Pt.U, Pt.locs, Pt.cells, Pt.slots] at X15 l15 y15 z15 st15 hQ15
    subst l15 y15 z15
    obtain ⟨rfl, Nq15, eq15⟩ := hQ15
    have N15 := Fr.app N11 Nq15
    have pre16 : own_Go p e below S0 (T15.setTop (mkF m 33 #[.val (.ref a1), .val (.ref a2), .val (.int p3), .val (.int 0)] [(.int c0), (.ref a1)])) := by
      intro t kt
      refine pre14 t ?_
      refine st15.trans ?_
      show Steps p.tables e below (T15.setTop (mkF m 33 #[.val (.ref a1), .val (.ref a2), .val (.int p3), .val (.int 0)] [(.int c0), (.ref a1)])) _
      exact kt
    obtain ⟨cq17, qa17, qb17⟩ := qa.cell
    obtain ⟨_, _, ⟨T17, L17, k17, n17⟩, -, X17, ⟨Lc17, hQ17, l17, y17, z17⟩, st17⟩ := X15.privateBack hx (y := own_m0) hown (mvT hZ (hw _ (own_w 84 rfl))) (mvT hZ (hw _ (own_w 85 rfl))) (own_selPriv2 (z := own_m1) rfl (by decide) (mvT hZ (hw _ (own_w 45 rfl))) (mvP hZ (hw _ (own_w 86 rfl))) (mvT hZ (hw _ (own_w 85 rfl)))) (Cond.privateMethod_at (mvP hZ (hw _ (own_w 86 rfl)) (args := #[]))) (mvT hZ (hw _ (own_w 87 rfl))) (by decide) (backOf (W := 0) (rmidc l Z a0 hw [] a1 c0 wC kk h0 n0 Z0 O0 qC hP) hZ (hw _ (own_w 87 rfl)) (hw _ (own_w 2 rfl)) (by decide) (by decide)) (g := (mkF m 33 #[.val (.ref a1), .val (.ref a2), .val (.int p3), .val (.int 0)] [(.int c0), (.ref a1)])) rfl (by rw [hml]; rfl) (Steps.refl _) (a := a1) (by rw [eq15]; exact qa17) qb17 (argsL := [(.int c0)]) (rest := []) (lenOf pd_20 rfl) rfl (by show 2 * 0 + _ ≤ _; exact Nat.le_of_eq rfl) (hb hby d9_33) (fun _ _ => ⟨rfl, eq15, (by decide : 0 + 0 ≤ _), (by decide : 0 + 0 ≤ _)⟩)
    dsimp only [Pt.U, Pt.locs, Pt.cells, Pt.slots] at X17 l17 y17 z17 st17 hQ17
    subst l17 y17 z17
    obtain ⟨rfl, Nq17, eq17⟩ := hQ17
    have N17 := Fr.app N15 Nq17
    have pre19 : own_Go p e below S0 (T17.setTop (mkF m 36 #[.val (.ref a1), .val (.ref a2), .val (.int p3), .val (.int 0)] [(.int (own_al kk c0))])) := by
      intro t kt
      refine pre16 t ?_
      refine st17.trans ?_
      show Steps p.tables e below (T17.setTop (mkF m 36 #[.val (.ref a1), .val (.ref a2), .val (.int p3), .val (.int 0)] [(.int (own_al kk c0))])) _
      exact kt
    by_cases hc18 : (own_al kk c0) = (0 : Int32)
    · have pre20 : own_Go p e below S0 (T17.setTop (mkF m 40 #[.val (.ref a1), .val (.ref a2), .val (.int p3), .val (.int 0)] [(.int 0)])) := by
        intro t kt
        refine pre19 t ?_
        refine XS.ifNo X17.here hx rfl (hb hby d9_36) rfl ((if0 _ _).trans (teq hc18).2) ?_
        refine XS.iconst X17.here hx rfl (hb hby d9_39) ?_
        exact kt
      obtain ⟨fs, hr, hrun, hended, hW, hsame⟩ := X17.leave (v := some (.int 0)) (fun h => by rw [Bd.returns] at h; cases h)
      refine ⟨_, _, fin _ (pre20 _ ?_), hrun, hended, _, _, rfl, ?_, ⟨_, rfl⟩, hW, hsame.mono (by decide) (by decide)⟩
      · exact retN X17 hx (t := .boolean) Bd.returns (by simp) (hb hby d9_40) hr
      · show Qval3 Z a1 a2 p3 wC wF vb kb c0 c1 c2 kk h0 n0 _ T17.heap _
        rw [eq17]
        exact ⟨(by show some _ = some _; rw [own_val3, if_neg hc7, if_pos hc18]), N17, rfl⟩
    · have pre21 : own_Go p e below S0 (T17.setTop (mkF m 21 #[.val (.ref a1), .val (.ref a2), .val (.int p3), .val (.int 1)] [(.ref a2), (.int 1)])) := by
        intro t kt
        refine pre19 t ?_
        refine XS.ifYes X17.here hx rfl (pc0 := 36) (pc' := 41) rfl (hb hby d9_36) rfl ((if0 _ _).trans (feq hc18).2) (by decide) (by decide) ?_
        refine XS.iinc X17.here hx rfl (hb hby d9_41) rfl (l' := #[.val (.ref a1), .val (.ref a2), .val (.int p3), .val (.int 1)]) rfl ?_
        refine XS.goto X17.here hx rfl (pc0 := 44) (pc' := 19) rfl (hb hby d9_44) (by decide) (by decide) ?_
        refine XS.iloadN X17.here hx rfl (hb hby d9_19) rfl ?_
        refine XS.aloadN X17.here hx rfl (hb hby d9_20) rfl rfl ?_
        exact kt
      obtain ⟨cq22, kq22, qa22, qb22, qc22⟩ := isOf hZ eq17 (hS).1
      obtain ⟨_, _, ⟨T22, L22, k22, n22⟩, -, X22, ⟨Lc22, hQ22, l22, y22, z22⟩, st22⟩ := X17.virtualBack hx (y := own_m15) (z := own_m15) hown (mvT hZ (hw _ (own_w 52 rfl))) (mvT hZ (hw _ (own_w 53 rfl))) (notFace_of_selects (args := #[]) (mvT hZ (hw _ (own_w 55 rfl)))) (mvT hZ (hw _ (own_w 55 rfl))) (mvT hZ (hw _ (own_w 54 rfl))) (by decide) (backOf (W := 1) (rmlength l Z a0 hw [] a2 wC vb kb [c0, c1, c2] h0 n0 Z0 O0 qC hS (Nat.le_of_ble_eq_true rfl)) hZ (hw _ (own_w 56 rfl)) (hw _ (own_w 11 rfl)) (by decide) (by decide)) qa22 qc22 (g := (mkF m 21 #[.val (.ref a1), .val (.ref a2), .val (.int p3), .val (.int 1)] [(.ref a2), (.int 1)])) rfl (by rw [hml]; rfl) (Steps.refl _) (argsL := []) (rest := [(.int 1)]) (lenOf pd_18 rfl) rfl (by show 2 * 0 + _ ≤ _; exact Nat.le_of_eq rfl) (hb hby d9_21) (fun _ _ => ⟨rfl, eq17, (by decide : 0 + 0 ≤ _), (by decide : 0 + 0 ≤ _)⟩)
      dsimp only [Pt.U, Pt.locs, Pt.cells, Pt.slots] at X22 l22 y22 z22 st22 hQ22
      subst l22 y22 z22
      obtain ⟨rfl, Nq22, eq22⟩ := hQ22
      have N22 := Fr.app N17 Nq22
      have pre23 : own_Go p e below S0 (T22.setTop (mkF m 24 #[.val (.ref a1), .val (.ref a2), .val (.int p3), .val (.int 1)] [(.int (own_len [c0, c1, c2])), (.int 1)])) := by
        intro t kt
        refine pre21 t ?_
        refine st22.trans ?_
        show Steps p.tables e below (T22.setTop (mkF m 24 #[.val (.ref a1), .val (.ref a2), .val (.int p3), .val (.int 1)] [(.int (own_len [c0, c1, c2])), (.int 1)])) _
        exact kt
      have pre24 : own_Go p e below S0 (T22.setTop (mkF m 24 #[.val (.ref a1), .val (.ref a2), .val (.int p3), .val (.int 1)] [(.int 3), (.int 1)])) := by
        intro t kt
        refine pre23 t ?_
        rw [(show own_len [c0, c1, c2] = (3 : Int32) from rfl)]
        exact kt
      have pre25 : own_Go p e below S0 (T22.setTop (mkF m 30 #[.val (.ref a1), .val (.ref a2), .val (.int p3), .val (.int 1)] [(.int 1), (.ref a2), (.ref a1)])) := by
        intro t kt
        refine pre24 t ?_
        refine XS.icmpNo X22.here hx rfl (hb hby d9_24) rfl (tlt (by decide : (1 : Int32) < (3 : Int32))).2.1 ?_
        refine XS.aloadN X22.here hx rfl (hb hby d9_27) rfl rfl ?_
        refine XS.aloadN X22.here hx rfl (hb hby d9_28) rfl rfl ?_
        refine XS.iloadN X22.here hx rfl (hb hby d9_29) rfl ?_
        exact kt
      obtain ⟨cq26, kq26, qa26, qb26, qc26⟩ := isOf hZ eq22 (hS).1
      obtain ⟨_, _, ⟨T26, L26, k26, n26⟩, -, X26, ⟨Lc26, hQ26, l26, y26, z26⟩, st26⟩ := X22.virtualBack hx (y := own_m8) (z := own_m8) hown (mvT hZ (hw _ (own_w 62 rfl))) (mvT hZ (hw _ (own_w 63 rfl))) (notFace_of_selects (args := #[]) (mvT hZ (hw _ (own_w 65 rfl)))) (mvT hZ (hw _ (own_w 65 rfl))) (mvT hZ (hw _ (own_w 64 rfl))) (by decide) (backOf (W := 1) (rmcharAt l Z a0 hw [] a2 (1 : Int32) wC wF vb kb [c0, c1, c2] c1 h0 n0 Z0 O0 qC qU qF hS (Nat.le_of_ble_eq_true rfl) (by decide) (by decide : (1 : Int32) < (3 : Int32)) rfl) hZ (hw _ (own_w 66 rfl)) (hw _ (own_w 11 rfl)) (by decide) (by decide)) qa26 qc26 (g := (mkF m 30 #[.val (.ref a1), .val (.ref a2), .val (.int p3), .val (.int 1)] [(.int 1), (.ref a2), (.ref a1)])) rfl (by rw [hml]; rfl) (Steps.refl _) (argsL := [(.int 1)]) (rest := [(.ref a1)]) (lenOf pd_19 rfl) rfl (by show 2 * 0 + _ ≤ _; exact Nat.le_of_eq rfl) (hb hby d9_30) (fun _ _ => ⟨rfl, eq22, (by decide : 0 + 0 ≤ _), (by decide : 0 + 0 ≤ _)⟩)
      dsimp only [Pt.U, Pt.locs, Pt.cells, Pt.slots] at X26 l26 y26 z26 st26 hQ26
      subst l26 y26 z26
      obtain ⟨rfl, Nq26, eq26⟩ := hQ26
      have N26 := Fr.app N22 Nq26
      have pre27 : own_Go p e below S0 (T26.setTop (mkF m 33 #[.val (.ref a1), .val (.ref a2), .val (.int p3), .val (.int 1)] [(.int c1), (.ref a1)])) := by
        intro t kt
        refine pre25 t ?_
        refine st26.trans ?_
        show Steps p.tables e below (T26.setTop (mkF m 33 #[.val (.ref a1), .val (.ref a2), .val (.int p3), .val (.int 1)] [(.int c1), (.ref a1)])) _
        exact kt
      obtain ⟨cq28, qa28, qb28⟩ := qa.cell
      obtain ⟨_, _, ⟨T28, L28, k28, n28⟩, -, X28, ⟨Lc28, hQ28, l28, y28, z28⟩, st28⟩ := X26.privateBack hx (y := own_m0) hown (mvT hZ (hw _ (own_w 84 rfl))) (mvT hZ (hw _ (own_w 85 rfl))) (own_selPriv2 (z := own_m1) rfl (by decide) (mvT hZ (hw _ (own_w 45 rfl))) (mvP hZ (hw _ (own_w 86 rfl))) (mvT hZ (hw _ (own_w 85 rfl)))) (Cond.privateMethod_at (mvP hZ (hw _ (own_w 86 rfl)) (args := #[]))) (mvT hZ (hw _ (own_w 87 rfl))) (by decide) (backOf (W := 0) (rmidc l Z a0 hw [] a1 c1 wC kk h0 n0 Z0 O0 qC hP) hZ (hw _ (own_w 87 rfl)) (hw _ (own_w 2 rfl)) (by decide) (by decide)) (g := (mkF m 33 #[.val (.ref a1), .val (.ref a2), .val (.int p3), .val (.int 1)] [(.int c1), (.ref a1)])) rfl (by rw [hml]; rfl) (Steps.refl _) (a := a1) (by rw [eq26]; exact qa28) qb28 (argsL := [(.int c1)]) (rest := []) (lenOf pd_20 rfl) rfl (by show 2 * 0 + _ ≤ _; exact Nat.le_of_eq rfl) (hb hby d9_33) (fun _ _ => ⟨rfl, eq26, (by decide : 0 + 0 ≤ _), (by decide : 0 + 0 ≤ _)⟩)
      dsimp only [Pt.U, Pt.locs, Pt.cells, Pt.slots] at X28 l28 y28 z28 st28 hQ28
      subst l28 y28 z28
      obtain ⟨rfl, Nq28, eq28⟩ := hQ28
      have N28 := Fr.app N26 Nq28
      have pre30 : own_Go p e below S0 (T28.setTop (mkF m 36 #[.val (.ref a1), .val (.ref a2), .val (.int p3), .val (.int 1)] [(.int (own_al kk c1))])) := by
        intro t kt
        refine pre27 t ?_
        refine st28.trans ?_
        show Steps p.tables e below (T28.setTop (mkF m 36 #[.val (.ref a1), .val (.ref a2), .val (.int p3), .val (.int 1)] [(.int (own_al kk c1))])) _
        exact kt
      by_cases hc29 : (own_al kk c1) = (0 : Int32)
      · have pre31 : own_Go p e below S0 (T28.setTop (mkF m 40 #[.val (.ref a1), .val (.ref a2), .val (.int p3), .val (.int 1)] [(.int 0)])) := by
          intro t kt
          refine pre30 t ?_
          refine XS.ifNo X28.here hx rfl (hb hby d9_36) rfl ((if0 _ _).trans (teq hc29).2) ?_
          refine XS.iconst X28.here hx rfl (hb hby d9_39) ?_
          exact kt
        obtain ⟨fs, hr, hrun, hended, hW, hsame⟩ := X28.leave (v := some (.int 0)) (fun h => by rw [Bd.returns] at h; cases h)
        refine ⟨_, _, fin _ (pre31 _ ?_), hrun, hended, _, _, rfl, ?_, ⟨_, rfl⟩, hW, hsame.mono (by decide) (by decide)⟩
        · exact retN X28 hx (t := .boolean) Bd.returns (by simp) (hb hby d9_40) hr
        · show Qval3 Z a1 a2 p3 wC wF vb kb c0 c1 c2 kk h0 n0 _ T28.heap _
          rw [eq28]
          exact ⟨(by show some _ = some _; rw [own_val3, if_neg hc7, if_neg hc18, if_pos hc29]), N28, rfl⟩
      · have pre32 : own_Go p e below S0 (T28.setTop (mkF m 21 #[.val (.ref a1), .val (.ref a2), .val (.int p3), .val (.int 2)] [(.ref a2), (.int 2)])) := by
          intro t kt
          refine pre30 t ?_
          refine XS.ifYes X28.here hx rfl (pc0 := 36) (pc' := 41) rfl (hb hby d9_36) rfl ((if0 _ _).trans (feq hc29).2) (by decide) (by decide) ?_
          refine XS.iinc X28.here hx rfl (hb hby d9_41) rfl (l' := #[.val (.ref a1), .val (.ref a2), .val (.int p3), .val (.int 2)]) rfl ?_
          refine XS.goto X28.here hx rfl (pc0 := 44) (pc' := 19) rfl (hb hby d9_44) (by decide) (by decide) ?_
          refine XS.iloadN X28.here hx rfl (hb hby d9_19) rfl ?_
          refine XS.aloadN X28.here hx rfl (hb hby d9_20) rfl rfl ?_
          exact kt
        obtain ⟨cq33, kq33, qa33, qb33, qc33⟩ := isOf hZ eq28 (hS).1
        obtain ⟨_, _, ⟨T33, L33, k33, n33⟩, -, X33, ⟨Lc33, hQ33, l33, y33, z33⟩, st33⟩ := X28.virtualBack hx (y := own_m15) (z := own_m15) hown (mvT hZ (hw _ (own_w 52 rfl))) (mvT hZ (hw _ (own_w 53 rfl))) (notFace_of_selects (args := #[]) (mvT hZ (hw _ (own_w 55 rfl)))) (mvT hZ (hw _ (own_w 55 rfl))) (mvT hZ (hw _ (own_w 54 rfl))) (by decide) (backOf (W := 1) (rmlength l Z a0 hw [] a2 wC vb kb [c0, c1, c2] h0 n0 Z0 O0 qC hS (Nat.le_of_ble_eq_true rfl)) hZ (hw _ (own_w 56 rfl)) (hw _ (own_w 11 rfl)) (by decide) (by decide)) qa33 qc33 (g := (mkF m 21 #[.val (.ref a1), .val (.ref a2), .val (.int p3), .val (.int 2)] [(.ref a2), (.int 2)])) rfl (by rw [hml]; rfl) (Steps.refl _) (argsL := []) (rest := [(.int 2)]) (lenOf pd_18 rfl) rfl (by show 2 * 0 + _ ≤ _; exact Nat.le_of_eq rfl) (hb hby d9_21) (fun _ _ => ⟨rfl, eq28, (by decide : 0 + 0 ≤ _), (by decide : 0 + 0 ≤ _)⟩)
        dsimp only [Pt.U, Pt.locs, Pt.cells, Pt.slots] at X33 l33 y33 z33 st33 hQ33
        subst l33 y33 z33
        obtain ⟨rfl, Nq33, eq33⟩ := hQ33
        have N33 := Fr.app N28 Nq33
        have pre34 : own_Go p e below S0 (T33.setTop (mkF m 24 #[.val (.ref a1), .val (.ref a2), .val (.int p3), .val (.int 2)] [(.int (own_len [c0, c1, c2])), (.int 2)])) := by
          intro t kt
          refine pre32 t ?_
          refine st33.trans ?_
          show Steps p.tables e below (T33.setTop (mkF m 24 #[.val (.ref a1), .val (.ref a2), .val (.int p3), .val (.int 2)] [(.int (own_len [c0, c1, c2])), (.int 2)])) _
          exact kt
        have pre35 : own_Go p e below S0 (T33.setTop (mkF m 24 #[.val (.ref a1), .val (.ref a2), .val (.int p3), .val (.int 2)] [(.int 3), (.int 2)])) := by
          intro t kt
          refine pre34 t ?_
          rw [(show own_len [c0, c1, c2] = (3 : Int32) from rfl)]
          exact kt
        have pre36 : own_Go p e below S0 (T33.setTop (mkF m 30 #[.val (.ref a1), .val (.ref a2), .val (.int p3), .val (.int 2)] [(.int 2), (.ref a2), (.ref a1)])) := by
          intro t kt
          refine pre35 t ?_
          refine XS.icmpNo X33.here hx rfl (hb hby d9_24) rfl (tlt (by decide : (2 : Int32) < (3 : Int32))).2.1 ?_
          refine XS.aloadN X33.here hx rfl (hb hby d9_27) rfl rfl ?_
          refine XS.aloadN X33.here hx rfl (hb hby d9_28) rfl rfl ?_
          refine XS.iloadN X33.here hx rfl (hb hby d9_29) rfl ?_
          exact kt
        obtain ⟨cq37, kq37, qa37, qb37, qc37⟩ := isOf hZ eq33 (hS).1
        obtain ⟨_, _, ⟨T37, L37, k37, n37⟩, -, X37, ⟨Lc37, hQ37, l37, y37, z37⟩, st37⟩ := X33.virtualBack hx (y := own_m8) (z := own_m8) hown (mvT hZ (hw _ (own_w 62 rfl))) (mvT hZ (hw _ (own_w 63 rfl))) (notFace_of_selects (args := #[]) (mvT hZ (hw _ (own_w 65 rfl)))) (mvT hZ (hw _ (own_w 65 rfl))) (mvT hZ (hw _ (own_w 64 rfl))) (by decide) (backOf (W := 1) (rmcharAt l Z a0 hw [] a2 (2 : Int32) wC wF vb kb [c0, c1, c2] c2 h0 n0 Z0 O0 qC qU qF hS (Nat.le_of_ble_eq_true rfl) (by decide) (by decide : (2 : Int32) < (3 : Int32)) rfl) hZ (hw _ (own_w 66 rfl)) (hw _ (own_w 11 rfl)) (by decide) (by decide)) qa37 qc37 (g := (mkF m 30 #[.val (.ref a1), .val (.ref a2), .val (.int p3), .val (.int 2)] [(.int 2), (.ref a2), (.ref a1)])) rfl (by rw [hml]; rfl) (Steps.refl _) (argsL := [(.int 2)]) (rest := [(.ref a1)]) (lenOf pd_19 rfl) rfl (by show 2 * 0 + _ ≤ _; exact Nat.le_of_eq rfl) (hb hby d9_30) (fun _ _ => ⟨rfl, eq33, (by decide : 0 + 0 ≤ _), (by decide : 0 + 0 ≤ _)⟩)
        dsimp only [Pt.U, Pt.locs, Pt.cells, Pt.slots] at X37 l37 y37 z37 st37 hQ37
        subst l37 y37 z37
        obtain ⟨rfl, Nq37, eq37⟩ := hQ37
        have N37 := Fr.app N33 Nq37
        have pre38 : own_Go p e below S0 (T37.setTop (mkF m 33 #[.val (.ref a1), .val (.ref a2), .val (.int p3), .val (.int 2)] [(.int c2), (.ref a1)])) := by
          intro t kt
          refine pre36 t ?_
          refine st37.trans ?_
          show Steps p.tables e below (T37.setTop (mkF m 33 #[.val (.ref a1), .val (.ref a2), .val (.int p3), .val (.int 2)] [(.int c2), (.ref a1)])) _
          exact kt
        obtain ⟨cq39, qa39, qb39⟩ := qa.cell
        obtain ⟨_, _, ⟨T39, L39, k39, n39⟩, -, X39, ⟨Lc39, hQ39, l39, y39, z39⟩, st39⟩ := X37.privateBack hx (y := own_m0) hown (mvT hZ (hw _ (own_w 84 rfl))) (mvT hZ (hw _ (own_w 85 rfl))) (own_selPriv2 (z := own_m1) rfl (by decide) (mvT hZ (hw _ (own_w 45 rfl))) (mvP hZ (hw _ (own_w 86 rfl))) (mvT hZ (hw _ (own_w 85 rfl)))) (Cond.privateMethod_at (mvP hZ (hw _ (own_w 86 rfl)) (args := #[]))) (mvT hZ (hw _ (own_w 87 rfl))) (by decide) (backOf (W := 0) (rmidc l Z a0 hw [] a1 c2 wC kk h0 n0 Z0 O0 qC hP) hZ (hw _ (own_w 87 rfl)) (hw _ (own_w 2 rfl)) (by decide) (by decide)) (g := (mkF m 33 #[.val (.ref a1), .val (.ref a2), .val (.int p3), .val (.int 2)] [(.int c2), (.ref a1)])) rfl (by rw [hml]; rfl) (Steps.refl _) (a := a1) (by rw [eq37]; exact qa39) qb39 (argsL := [(.int c2)]) (rest := []) (lenOf pd_20 rfl) rfl (by show 2 * 0 + _ ≤ _; exact Nat.le_of_eq rfl) (hb hby d9_33) (fun _ _ => ⟨rfl, eq37, (by decide : 0 + 0 ≤ _), (by decide : 0 + 0 ≤ _)⟩)
        dsimp only [Pt.U, Pt.locs, Pt.cells, Pt.slots] at X39 l39 y39 z39 st39 hQ39
        subst l39 y39 z39
        obtain ⟨rfl, Nq39, eq39⟩ := hQ39
        have N39 := Fr.app N37 Nq39
        have pre41 : own_Go p e below S0 (T39.setTop (mkF m 36 #[.val (.ref a1), .val (.ref a2), .val (.int p3), .val (.int 2)] [(.int (own_al kk c2))])) := by
          intro t kt
          refine pre38 t ?_
          refine st39.trans ?_
          show Steps p.tables e below (T39.setTop (mkF m 36 #[.val (.ref a1), .val (.ref a2), .val (.int p3), .val (.int 2)] [(.int (own_al kk c2))])) _
          exact kt
        by_cases hc40 : (own_al kk c2) = (0 : Int32)
        · have pre42 : own_Go p e below S0 (T39.setTop (mkF m 40 #[.val (.ref a1), .val (.ref a2), .val (.int p3), .val (.int 2)] [(.int 0)])) := by
            intro t kt
            refine pre41 t ?_
            refine XS.ifNo X39.here hx rfl (hb hby d9_36) rfl ((if0 _ _).trans (teq hc40).2) ?_
            refine XS.iconst X39.here hx rfl (hb hby d9_39) ?_
            exact kt
          obtain ⟨fs, hr, hrun, hended, hW, hsame⟩ := X39.leave (v := some (.int 0)) (fun h => by rw [Bd.returns] at h; cases h)
          refine ⟨_, _, fin _ (pre42 _ ?_), hrun, hended, _, _, rfl, ?_, ⟨_, rfl⟩, hW, hsame.mono (by decide) (by decide)⟩
          · exact retN X39 hx (t := .boolean) Bd.returns (by simp) (hb hby d9_40) hr
          · show Qval3 Z a1 a2 p3 wC wF vb kb c0 c1 c2 kk h0 n0 _ T39.heap _
            rw [eq39]
            exact ⟨(by show some _ = some _; rw [own_val3, if_neg hc7, if_neg hc18, if_neg hc29, if_pos hc40]), N39, rfl⟩
        · have pre43 : own_Go p e below S0 (T39.setTop (mkF m 21 #[.val (.ref a1), .val (.ref a2), .val (.int p3), .val (.int 3)] [(.ref a2), (.int 3)])) := by
            intro t kt
            refine pre41 t ?_
            refine XS.ifYes X39.here hx rfl (pc0 := 36) (pc' := 41) rfl (hb hby d9_36) rfl ((if0 _ _).trans (feq hc40).2) (by decide) (by decide) ?_
            refine XS.iinc X39.here hx rfl (hb hby d9_41) rfl (l' := #[.val (.ref a1), .val (.ref a2), .val (.int p3), .val (.int 3)]) rfl ?_
            refine XS.goto X39.here hx rfl (pc0 := 44) (pc' := 19) rfl (hb hby d9_44) (by decide) (by decide) ?_
            refine XS.iloadN X39.here hx rfl (hb hby d9_19) rfl ?_
            refine XS.aloadN X39.here hx rfl (hb hby d9_20) rfl rfl ?_
            exact kt
          obtain ⟨cq44, kq44, qa44, qb44, qc44⟩ := isOf hZ eq39 (hS).1
          obtain ⟨_, _, ⟨T44, L44, k44, n44⟩, -, X44, ⟨Lc44, hQ44, l44, y44, z44⟩, st44⟩ := X39.virtualBack hx (y := own_m15) (z := own_m15) hown (mvT hZ (hw _ (own_w 52 rfl))) (mvT hZ (hw _ (own_w 53 rfl))) (notFace_of_selects (args := #[]) (mvT hZ (hw _ (own_w 55 rfl)))) (mvT hZ (hw _ (own_w 55 rfl))) (mvT hZ (hw _ (own_w 54 rfl))) (by decide) (backOf (W := 1) (rmlength l Z a0 hw [] a2 wC vb kb [c0, c1, c2] h0 n0 Z0 O0 qC hS (Nat.le_of_ble_eq_true rfl)) hZ (hw _ (own_w 56 rfl)) (hw _ (own_w 11 rfl)) (by decide) (by decide)) qa44 qc44 (g := (mkF m 21 #[.val (.ref a1), .val (.ref a2), .val (.int p3), .val (.int 3)] [(.ref a2), (.int 3)])) rfl (by rw [hml]; rfl) (Steps.refl _) (argsL := []) (rest := [(.int 3)]) (lenOf pd_18 rfl) rfl (by show 2 * 0 + _ ≤ _; exact Nat.le_of_eq rfl) (hb hby d9_21) (fun _ _ => ⟨rfl, eq39, (by decide : 0 + 0 ≤ _), (by decide : 0 + 0 ≤ _)⟩)
          dsimp only [Pt.U, Pt.locs, Pt.cells, Pt.slots] at X44 l44 y44 z44 st44 hQ44
          subst l44 y44 z44
          obtain ⟨rfl, Nq44, eq44⟩ := hQ44
          have N44 := Fr.app N39 Nq44
          have pre45 : own_Go p e below S0 (T44.setTop (mkF m 24 #[.val (.ref a1), .val (.ref a2), .val (.int p3), .val (.int 3)] [(.int (own_len [c0, c1, c2])), (.int 3)])) := by
            intro t kt
            refine pre43 t ?_
            refine st44.trans ?_
            show Steps p.tables e below (T44.setTop (mkF m 24 #[.val (.ref a1), .val (.ref a2), .val (.int p3), .val (.int 3)] [(.int (own_len [c0, c1, c2])), (.int 3)])) _
            exact kt
          have pre46 : own_Go p e below S0 (T44.setTop (mkF m 24 #[.val (.ref a1), .val (.ref a2), .val (.int p3), .val (.int 3)] [(.int 3), (.int 3)])) := by
            intro t kt
            refine pre45 t ?_
            rw [(show own_len [c0, c1, c2] = (3 : Int32) from rfl)]
            exact kt
          have pre47 : own_Go p e below S0 (T44.setTop (mkF m 48 #[.val (.ref a1), .val (.ref a2), .val (.int p3), .val (.int 3)] [(.int 1)])) := by
            intro t kt
            refine pre46 t ?_
            refine XS.icmpYes X44.here hx rfl (pc0 := 24) (pc' := 47) rfl (hb hby d9_24) rfl (flt (by decide : ¬ ((3 : Int32) < (3 : Int32)))).2.1 (by decide) (by decide) ?_
            refine XS.iconst X44.here hx rfl (hb hby d9_47) ?_
            exact kt
          obtain ⟨fs, hr, hrun, hended, hW, hsame⟩ := X44.leave (v := some (.int 1)) (fun h => by rw [Bd.returns] at h; cases h)
          refine ⟨_, _, fin _ (pre47 _ ?_), hrun, hended, _, _, rfl, ?_, ⟨_, rfl⟩, hW, hsame.mono (by decide) (by decide)⟩
          · exact retN X44 hx (t := .boolean) Bd.returns (by simp) (hb hby d9_48) hr
          · show Qval3 Z a1 a2 p3 wC wF vb kb c0 c1 c2 kk h0 n0 _ T44.heap _
            rw [eq44]
            exact ⟨(by show some _ = some _; rw [own_val3, if_neg hc7, if_neg hc18, if_neg hc29, if_neg hc40]), N44, rfl⟩

theorem own_rem3 (x : Int32) : (x &&& 2147483647) % 3 = 0 ∨ (x &&& 2147483647) % 3 = 1 ∨ (x &&& 2147483647) % 3 = 2 := by
  have h := c_mask x 2147483647 31 (by decide) (by decide)
  have h2 := c_irem (x &&& 2147483647) 3 3 rfl
  have he : ∀ a b : Int32, a = b ↔ a.toInt = b.toInt := fun a b => Int32.toInt_inj.symm
  simp only [he, show (0 : Int32).toInt = 0 from rfl, show (1 : Int32).toInt = 1 from rfl, show (2 : Int32).toInt = 2 from rfl]
  omega
theorem own_and3 (x : Int32) : (x &&& 3) = 0 ∨ (x &&& 3) = 1 ∨ (x &&& 3) = 2 ∨ (x &&& 3) = 3 := by
  have h := c_mask x 3 2 (by decide) (by decide)
  have he : ∀ a b : Int32, a = b ↔ a.toInt = b.toInt := fun a b => Int32.toInt_inj.symm
  simp only [he, show (0 : Int32).toInt = 0 from rfl, show (1 : Int32).toInt = 1 from rfl, show (2 : Int32).toInt = 2 from rfl, show (3 : Int32).toInt = 3 from rfl]
  omega
theorem own_nc (x : Int32) : nar .char (x.toUInt32.toUInt16.toUInt32.toInt32) = x.toUInt32.toUInt16.toUInt32.toInt32 := by
  have h := c_i2c x
  exact own_narChar _ h.2.1 h.2.2

theorem pn_0 : plainName "com/example/backplane/backplane/IdSyntaxIsValidPinLaw" = true := by first | (simp [plainName, overriddenIn]; done) | decide +kernel
theorem pd_21 : parseMethodDescriptor "(ICCC)Ljava/lang/String;" = some ⟨[.int, .char, .char, .char], some (.object "java/lang/String")⟩ := by decide +kernel
theorem pd_22 : parseMethodDescriptor "(Ljava/lang/String;I)Z" = some ⟨[(.object "java/lang/String"), .int], some .boolean⟩ := by decide +kernel
theorem pd_23 : parseMethodDescriptor "(IC)Z" = some ⟨[.int, .char], some .boolean⟩ := by decide +kernel
theorem ef_0 (m : MethodId) (x0 : Int32) (x1 : Int32) (x2 : Int32) (x3 : Int32) (x4 : Int32) (x5 : Int32) : entryFrame m #[(.int x0), (.int x1), (.int x2), (.int x3), (.int x4), (.int x5)] maxLocals = mkF m 0 #[.val (.int x0), .val (.int x1), .val (.int x2), .val (.int x3), .val (.int x4), .val (.int x5), .unset, .unset, .unset, .unset, .unset, .unset, .unset, .unset] [] := by first | (simp [entryFrame, mkF, argsToLocals, Value.category, maxLocals]; done) | rfl
def Q0 (Z : State) (p1 : Int32) (p2 : Int32) (p3 : Int32) (p4 : Int32) (p5 : Int32) (p6 : Int32) (wC : Int32) (wF : Value) (wPLAIN : Addr) (wWITH_COLON : Addr) (wBASE64_URL : Addr) (h0 : Heap) (n0 : Nat) (v : Option Value) (h : Heap) (L : List Loc) : Prop := v = (some (.int 1)) ∧ Fr n0 L
set_option maxRecDepth 65536 in
set_option maxHeartbeats 40000000 in
theorem rm0 (l : Launch) (Z : State) (a0 : Array Value) (hw : ∀ d ∈ tables_1, d.before a0 Z = true) (ws : List Jvm.Cond) (p1 : Int32) (p2 : Int32) (p3 : Int32) (p4 : Int32) (p5 : Int32) (p6 : Int32) (wC : Int32) (wF : Value) (wPLAIN : Addr) (wWITH_COLON : Addr) (wBASE64_URL : Addr) (h0 : Heap) (n0 : Nat) (Z0 : n0 ≤ h0.size) (O0 : Old Z n0 h0) (qC : (own_SC Z wC)) (qU : (own_SU Z)) (qF : (own_SF Z wF)) (SPLAIN : Sta Z Z.heap "com/example/backplane/backplane/IdSyntax" "PLAIN" "Lcom/example/backplane/backplane/IdSyntax;" (.ref wPLAIN)) (SWITH_COLON : Sta Z Z.heap "com/example/backplane/backplane/IdSyntax" "WITH_COLON" "Lcom/example/backplane/backplane/IdSyntax;" (.ref wWITH_COLON)) (SBASE64_URL : Sta Z Z.heap "com/example/backplane/backplane/IdSyntax" "BASE64_URL" "Lcom/example/backplane/backplane/IdSyntax;" (.ref wBASE64_URL)) (QPLAIN : (own_Pu Z Z.heap wPLAIN 0)) (QWITH_COLON : (own_Pu Z Z.heap wWITH_COLON 1)) (QBASE64_URL : (own_Pu Z Z.heap wBASE64_URL 2)) :
    MetFree l x (head1 (Jvm.Cond.code x code maxLocals ret :: ws) room_1) (fun a U => a = #[(.int p1), (.int p2), (.int p3), (.int p4), (.int p5), (.int p6)] ∧ Z.Warmed39 U.vm ∧ U.heap = h0 ∧ CHv Z own_EL U.vm h0 ∧ ∀ x ∈ ([] : List Addr), Safe Z own_EL U.vm h0 x) (fun _ _ _ _ _ => True) (fun _ U o U' => ∃ v L, o = .returned v ∧ Q0 Z p1 p2 p3 p4 p5 p6 wC wF wPLAIN wWITH_COLON wBASE64_URL h0 n0 v U'.heap L ∧ ReturnedEndW U o U' L 4 16) := by
  refine MetFree.of_bodySF (plainFor_of_name pn_0) hisR ?_
  intro p e s m args below meth c s₁ Bd hml0 hP hK
  obtain ⟨rfl, hZ, hh, hCH, hSF⟩ := hP
  have hx := Bd.exec
  have hby := Bd.bytes
  have hml : c.maxLocals = 14 := hml0
  have hown0 := findClass_of_methodNamed Bd.named
  have hown : s.vm.findClass "com/example/backplane/backplane/IdSyntaxIsValidPinLaw" = some m.cls := hown0
  have hnm := (name_of_methodNamed Bd.named Bd.method).1
  have X0 : Stand p l e room_1 s m #[(.int p1), (.int p2), (.int p3), (.int p4), (.int p5), (.int p6)] below meth c s₁ [] 0 0 := Stand.of_body Bd
  have e0 : s₁.heap = h0 := by rw [← hh, Bd.state]; rfl
  have N0 := Fr.nil n0
  obtain ⟨S0, hS0⟩ : ∃ z, z = s₁.setTop (entryFrame m #[(.int p1), (.int p2), (.int p3), (.int p4), (.int p5), (.int p6)] maxLocals) := ⟨_, rfl⟩
  have pre0 : own_Go p e below S0 (s₁.setTop (mkF m 0 #[.val (.int p1), .val (.int p2), .val (.int p3), .val (.int p4), .val (.int p5), .val (.int p6), .unset, .unset, .unset, .unset, .unset, .unset, .unset, .unset] [])) := fun t k => by rw [hS0]; exact castTop (ef_0 m p1 p2 p3 p4 p5 p6) k
  have fin : ∀ t, Steps p.tables e below S0 t → Steps p.tables e below (s₁.setTop (entryFrame m #[(.int p1), (.int p2), (.int p3), (.int p4), (.int p5), (.int p6)] maxLocals)) t := fun t k => by rw [hS0] at k; exact k
  have ch0 : CHr Z own_EL s.vm h0 s.vm h0 := CHr.refl hCH
  have pre1 : own_Go p e below S0 (s₁.setTop (mkF m 8 #[.val (.int p1), .val (.int p2), .val (.int p3), .val (.int p4), .val (.int p5), .val (.int p6), .val (.int ((p1 &&& (2147483647 : Int32)) % (3 : Int32))), .unset, .unset, .unset, .unset, .unset, .unset, .unset] [])) := by
    intro t kt
    refine pre0 t ?_
    refine XS.iloadN X0.here hx rfl (hb hby at_0) rfl ?_
    refine X0.ldcInt hx hown (mvT hZ (hw _ (own_w 0 rfl))) (g := (mkF m 1 #[.val (.int p1), .val (.int p2), .val (.int p3), .val (.int p4), .val (.int p5), .val (.int p6), .unset, .unset, .unset, .unset, .unset, .unset, .unset, .unset] [(.int p1)])) rfl (hb hby at_1) _ ?_
    refine XS.iand X0.here hx rfl (hb hby at_3) rfl ?_
    refine XS.iconst X0.here hx rfl (hb hby at_4) ?_
    refine iremM X0 hx rfl (hb hby at_5) rfl (by decide) ?_
    refine XS.istore X0.here hx rfl (hb hby at_6) rfl (l' := #[.val (.int p1), .val (.int p2), .val (.int p3), .val (.int p4), .val (.int p5), .val (.int p6), .val (.int ((p1 &&& (2147483647 : Int32)) % (3 : Int32))), .unset, .unset, .unset, .unset, .unset, .unset, .unset]) rfl ?_
    show Steps p.tables e below (s₁.setTop (mkF m 8 #[.val (.int p1), .val (.int p2), .val (.int p3), .val (.int p4), .val (.int p5), .val (.int p6), .val (.int ((p1 &&& (2147483647 : Int32)) % (3 : Int32))), .unset, .unset, .unset, .unset, .unset, .unset, .unset] [])) _
    exact kt
  obtain ⟨wk, kk, Tj2, lj2, Xj2, Nj2, ej2, pj15, prej2⟩ : ∃ (wk : Addr) (kk : Int32) (Tj2 : State) (lj2 : List Loc), Stand p l e room_1 s m #[(.int p1), (.int p2), (.int p3), (.int p4), (.int p5), (.int p6)] below meth c Tj2 lj2 0 0 ∧ Fr n0 lj2 ∧ Tj2.heap = h0 ∧ own_Pu Z Z.heap wk kk ∧ own_Go p e below S0 (Tj2.setTop (mkF m 34 #[.val (.int p1), .val (.int p2), .val (.int p3), .val (.int p4), .val (.int p5), .val (.int p6), .val (.int kk), .unset, .unset, .unset, .unset, .unset, .unset, .unset] [(.ref wk)])) := by
    rcases own_rem3 p1 with hk | hk | hk
    · have pre3 : own_Go p e below S0 (s₁.setTop (mkF m 8 #[.val (.int p1), .val (.int p2), .val (.int p3), .val (.int p4), .val (.int p5), .val (.int p6), .val (.int 0), .unset, .unset, .unset, .unset, .unset, .unset, .unset] [])) := by
        intro t kt
        refine pre1 t ?_
        rw [hk]
        exact kt
      have pre4 : own_Go p e below S0 (s₁.setTop (mkF m 13 #[.val (.int p1), .val (.int p2), .val (.int p3), .val (.int p4), .val (.int p5), .val (.int p6), .val (.int 0), .unset, .unset, .unset, .unset, .unset, .unset, .unset] [])) := by
        intro t kt
        refine pre3 t ?_
        refine XS.iload X0.here hx rfl (hb hby at_8) rfl ?_
        refine XS.ifNo X0.here hx rfl (hb hby at_10) rfl ((if0 _ _).trans (teq (by decide : (0 : Int32) = (0 : Int32))).2) ?_
        exact kt
      obtain ⟨T5, X5, e5, st5⟩ := getS2 X0 hx hZ hown (host := "") (Or.inl (hw _ (own_w 1 rfl))) Via.refl e0 (SPLAIN.ext O0.2) (g := (mkF m 13 #[.val (.int p1), .val (.int p2), .val (.int p3), .val (.int p4), .val (.int p5), .val (.int p6), .val (.int 0), .unset, .unset, .unset, .unset, .unset, .unset, .unset] [])) rfl (hb hby at_13)
      have pre6 : own_Go p e below S0 (T5.setTop (mkF m 34 #[.val (.int p1), .val (.int p2), .val (.int p3), .val (.int p4), .val (.int p5), .val (.int p6), .val (.int 0), .unset, .unset, .unset, .unset, .unset, .unset, .unset] [(.ref wPLAIN)])) := by
        intro t kt
        refine pre4 t ?_
        refine st5 _ ?_
        refine XS.goto X5.here hx rfl (pc0 := 16) (pc' := 34) rfl (hb hby at_16) (by decide) (by decide) ?_
        exact kt
      exact ⟨wPLAIN, (0 : Int32), T5, _, (Stand.mono X5 (by decide) (by decide)), N0, e5, QPLAIN, pre6⟩
    · have pre7 : own_Go p e below S0 (s₁.setTop (mkF m 8 #[.val (.int p1), .val (.int p2), .val (.int p3), .val (.int p4), .val (.int p5), .val (.int p6), .val (.int 1), .unset, .unset, .unset, .unset, .unset, .unset, .unset] [])) := by
        intro t kt
        refine pre1 t ?_
        rw [hk]
        exact kt
      have pre8 : own_Go p e below S0 (s₁.setTop (mkF m 25 #[.val (.int p1), .val (.int p2), .val (.int p3), .val (.int p4), .val (.int p5), .val (.int p6), .val (.int 1), .unset, .unset, .unset, .unset, .unset, .unset, .unset] [])) := by
        intro t kt
        refine pre7 t ?_
        refine XS.iload X0.here hx rfl (hb hby at_8) rfl ?_
        refine XS.ifYes X0.here hx rfl (pc0 := 10) (pc' := 19) rfl (hb hby at_10) rfl ((if0 _ _).trans (feq (by decide : ¬ ((1 : Int32) = (0 : Int32)))).2) (by decide) (by decide) ?_
        refine XS.iload X0.here hx rfl (hb hby at_19) rfl ?_
        refine XS.iconst X0.here hx rfl (hb hby at_21) ?_
        refine XS.icmpNo X0.here hx rfl (hb hby at_22) rfl (teq (by decide : (1 : Int32) = (1 : Int32))).2 ?_
        exact kt
      obtain ⟨T9, X9, e9, st9⟩ := getS2 X0 hx hZ hown (host := "") (Or.inl (hw _ (own_w 117 rfl))) Via.refl e0 (SWITH_COLON.ext O0.2) (g := (mkF m 25 #[.val (.int p1), .val (.int p2), .val (.int p3), .val (.int p4), .val (.int p5), .val (.int p6), .val (.int 1), .unset, .unset, .unset, .unset, .unset, .unset, .unset] [])) rfl (hb hby at_25)
      have pre10 : own_Go p e below S0 (T9.setTop (mkF m 34 #[.val (.int p1), .val (.int p2), .val (.int p3), .val (.int p4), .val (.int p5), .val (.int p6), .val (.int 1), .unset, .unset, .unset, .unset, .unset, .unset, .unset] [(.ref wWITH_COLON)])) := by
        intro t kt
        refine pre8 t ?_
        refine st9 _ ?_
        refine XS.goto X9.here hx rfl (pc0 := 28) (pc' := 34) rfl (hb hby at_28) (by decide) (by decide) ?_
        exact kt
      exact ⟨wWITH_COLON, (1 : Int32), T9, _, (Stand.mono X9 (by decide) (by decide)), N0, e9, QWITH_COLON, pre10⟩
    · have pre11 : own_Go p e below S0 (s₁.setTop (mkF m 8 #[.val (.int p1), .val (.int p2), .val (.int p3), .val (.int p4), .val (.int p5), .val (.int p6), .val (.int 2), .unset, .unset, .unset, .unset, .unset, .unset, .unset] [])) := by
        intro t kt
        refine pre1 t ?_
        rw [hk]
        exact kt
      have pre12 : own_Go p e below S0 (s₁.setTop (mkF m 31 #[.val (.int p1), .val (.int p2), .val (.int p3), .val (.int p4), .val (.int p5), .val (.int p6), .val (.int 2), .unset, .unset, .unset, .unset, .unset, .unset, .unset] [])) := by
        intro t kt
        refine pre11 t ?_
        refine XS.iload X0.here hx rfl (hb hby at_8) rfl ?_
        refine XS.ifYes X0.here hx rfl (pc0 := 10) (pc' := 19) rfl (hb hby at_10) rfl ((if0 _ _).trans (feq (by decide : ¬ ((2 : Int32) = (0 : Int32)))).2) (by decide) (by decide) ?_
        refine XS.iload X0.here hx rfl (hb hby at_19) rfl ?_
        refine XS.iconst X0.here hx rfl (hb hby at_21) ?_
        refine XS.icmpYes X0.here hx rfl (pc0 := 22) (pc' := 31) rfl (hb hby at_22) rfl (feq (by decide : ¬ ((2 : Int32) = (1 : Int32)))).2 (by decide) (by decide) ?_
        exact kt
      obtain ⟨T13, X13, e13, st13⟩ := getS2 X0 hx hZ hown (host := "") (Or.inl (hw _ (own_w 151 rfl))) Via.refl e0 (SBASE64_URL.ext O0.2) (g := (mkF m 31 #[.val (.int p1), .val (.int p2), .val (.int p3), .val (.int p4), .val (.int p5), .val (.int p6), .val (.int 2), .unset, .unset, .unset, .unset, .unset, .unset, .unset] [])) rfl (hb hby at_31)
      have pre14 : own_Go p e below S0 (T13.setTop (mkF m 34 #[.val (.int p1), .val (.int p2), .val (.int p3), .val (.int p4), .val (.int p5), .val (.int p6), .val (.int 2), .unset, .unset, .unset, .unset, .unset, .unset, .unset] [(.ref wBASE64_URL)])) := by
        intro t kt
        refine pre12 t ?_
        refine st13 _ ?_
        exact kt
      exact ⟨wBASE64_URL, (2 : Int32), T13, _, (Stand.mono X13 (by decide) (by decide)), N0, e13, QBASE64_URL, pre14⟩
  have pe16 : Exa Z h0 wk "com/example/backplane/backplane/IdSyntax" := by
    obtain ⟨_, _, _, q, _⟩ := id pj15
    exact q.ext O0.2
  have pre17 : own_Go p e below S0 (Tj2.setTop (mkF m 63 #[.val (.int p1), .val (.int p2), .val (.int p3), .val (.int p4), .val (.int p5), .val (.int p6), .val (.int kk), .val (.ref wk), .val (.int (p2 &&& (3 : Int32))), .val (.int ((p3 &&& (65535 : Int32)).toUInt32.toUInt16.toUInt32.toInt32)), .val (.int ((p4 &&& (65535 : Int32)).toUInt32.toUInt16.toUInt32.toInt32)), .val (.int ((p5 &&& (65535 : Int32)).toUInt32.toUInt16.toUInt32.toInt32)), .unset, .unset] [])) := by
    intro t kt
    refine prej2 t ?_
    refine XS.astore Xj2.here hx rfl (hb hby at_34) rfl rfl (l' := #[.val (.int p1), .val (.int p2), .val (.int p3), .val (.int p4), .val (.int p5), .val (.int p6), .val (.int kk), .val (.ref wk), .unset, .unset, .unset, .unset, .unset, .unset]) rfl ?_
    refine XS.iloadN Xj2.here hx rfl (hb hby at_36) rfl ?_
    refine XS.iconst Xj2.here hx rfl (hb hby at_37) ?_
    refine XS.iand Xj2.here hx rfl (hb hby at_38) rfl ?_
    refine XS.istore Xj2.here hx rfl (hb hby at_39) rfl (l' := #[.val (.int p1), .val (.int p2), .val (.int p3), .val (.int p4), .val (.int p5), .val (.int p6), .val (.int kk), .val (.ref wk), .val (.int (p2 &&& (3 : Int32))), .unset, .unset, .unset, .unset, .unset]) rfl ?_
    refine XS.iloadN Xj2.here hx rfl (hb hby at_41) rfl ?_
    show Steps p.tables e below (Tj2.setTop (mkF m 42 #[.val (.int p1), .val (.int p2), .val (.int p3), .val (.int p4), .val (.int p5), .val (.int p6), .val (.int kk), .val (.ref wk), .val (.int (p2 &&& (3 : Int32))), .unset, .unset, .unset, .unset, .unset] [(.int p3)])) _
    refine Xj2.ldcInt hx hown (mvT hZ (hw _ (own_w 4 rfl))) (g := (mkF m 42 #[.val (.int p1), .val (.int p2), .val (.int p3), .val (.int p4), .val (.int p5), .val (.int p6), .val (.int kk), .val (.ref wk), .val (.int (p2 &&& (3 : Int32))), .unset, .unset, .unset, .unset, .unset] [(.int p3)])) rfl (hb hby at_42) _ ?_
    refine XS.iand Xj2.here hx rfl (hb hby at_44) rfl ?_
    refine XS.i2c Xj2.here hx rfl (hb hby at_45) rfl ?_
    refine XS.istore Xj2.here hx rfl (hb hby at_46) rfl (l' := #[.val (.int p1), .val (.int p2), .val (.int p3), .val (.int p4), .val (.int p5), .val (.int p6), .val (.int kk), .val (.ref wk), .val (.int (p2 &&& (3 : Int32))), .val (.int ((p3 &&& (65535 : Int32)).toUInt32.toUInt16.toUInt32.toInt32)), .unset, .unset, .unset, .unset]) rfl ?_
    refine XS.iloadN Xj2.here hx rfl (hb hby at_48) rfl ?_
    refine Xj2.ldcInt hx hown (mvT hZ (hw _ (own_w 4 rfl))) (g := (mkF m 49 #[.val (.int p1), .val (.int p2), .val (.int p3), .val (.int p4), .val (.int p5), .val (.int p6), .val (.int kk), .val (.ref wk), .val (.int (p2 &&& (3 : Int32))), .val (.int ((p3 &&& (65535 : Int32)).toUInt32.toUInt16.toUInt32.toInt32)), .unset, .unset, .unset, .unset] [(.int p4)])) rfl (hb hby at_49) _ ?_
    show Steps p.tables e below (Tj2.setTop (mkF m 51 #[.val (.int p1), .val (.int p2), .val (.int p3), .val (.int p4), .val (.int p5), .val (.int p6), .val (.int kk), .val (.ref wk), .val (.int (p2 &&& (3 : Int32))), .val (.int ((p3 &&& (65535 : Int32)).toUInt32.toUInt16.toUInt32.toInt32)), .unset, .unset, .unset, .unset] [(.int 65535), (.int p4)])) _
    refine XS.iand Xj2.here hx rfl (hb hby at_51) rfl ?_
    refine XS.i2c Xj2.here hx rfl (hb hby at_52) rfl ?_
    refine XS.istore Xj2.here hx rfl (hb hby at_53) rfl (l' := #[.val (.int p1), .val (.int p2), .val (.int p3), .val (.int p4), .val (.int p5), .val (.int p6), .val (.int kk), .val (.ref wk), .val (.int (p2 &&& (3 : Int32))), .val (.int ((p3 &&& (65535 : Int32)).toUInt32.toUInt16.toUInt32.toInt32)), .val (.int ((p4 &&& (65535 : Int32)).toUInt32.toUInt16.toUInt32.toInt32)), .unset, .unset, .unset]) rfl ?_
    refine XS.iload Xj2.here hx rfl (hb hby at_55) rfl ?_
    refine Xj2.ldcInt hx hown (mvT hZ (hw _ (own_w 4 rfl))) (g := (mkF m 57 #[.val (.int p1), .val (.int p2), .val (.int p3), .val (.int p4), .val (.int p5), .val (.int p6), .val (.int kk), .val (.ref wk), .val (.int (p2 &&& (3 : Int32))), .val (.int ((p3 &&& (65535 : Int32)).toUInt32.toUInt16.toUInt32.toInt32)), .val (.int ((p4 &&& (65535 : Int32)).toUInt32.toUInt16.toUInt32.toInt32)), .unset, .unset, .unset] [(.int p5)])) rfl (hb hby at_57) _ ?_
    refine XS.iand Xj2.here hx rfl (hb hby at_59) rfl ?_
    show Steps p.tables e below (Tj2.setTop (mkF m 60 #[.val (.int p1), .val (.int p2), .val (.int p3), .val (.int p4), .val (.int p5), .val (.int p6), .val (.int kk), .val (.ref wk), .val (.int (p2 &&& (3 : Int32))), .val (.int ((p3 &&& (65535 : Int32)).toUInt32.toUInt16.toUInt32.toInt32)), .val (.int ((p4 &&& (65535 : Int32)).toUInt32.toUInt16.toUInt32.toInt32)), .unset, .unset, .unset] [(.int (p5 &&& (65535 : Int32)))])) _
    refine XS.i2c Xj2.here hx rfl (hb hby at_60) rfl ?_
    refine XS.istore Xj2.here hx rfl (hb hby at_61) rfl (l' := #[.val (.int p1), .val (.int p2), .val (.int p3), .val (.int p4), .val (.int p5), .val (.int p6), .val (.int kk), .val (.ref wk), .val (.int (p2 &&& (3 : Int32))), .val (.int ((p3 &&& (65535 : Int32)).toUInt32.toUInt16.toUInt32.toInt32)), .val (.int ((p4 &&& (65535 : Int32)).toUInt32.toUInt16.toUInt32.toInt32)), .val (.int ((p5 &&& (65535 : Int32)).toUInt32.toUInt16.toUInt32.toInt32)), .unset, .unset]) rfl ?_
    exact kt
  obtain ⟨y0, y1, y2, Tj18, lj18, Xj18, Nj18, ej18, pj19, pj20, pj21, prej18⟩ : ∃ (y0 : Int32) (y1 : Int32) (y2 : Int32) (Tj18 : State) (lj18 : List Loc), Stand p l e room_1 s m #[(.int p1), (.int p2), (.int p3), (.int p4), (.int p5), (.int p6)] below meth c Tj18 lj18 0 0 ∧ Fr n0 lj18 ∧ Tj18.heap = h0 ∧ nar .char y0 = y0 ∧ nar .char y1 = y1 ∧ nar .char y2 = y2 ∧ own_Go p e below S0 (Tj18.setTop (mkF m 63 #[.val (.int p1), .val (.int p2), .val (.int p3), .val (.int p4), .val (.int p5), .val (.int p6), .val (.int kk), .val (.ref wk), .val (.int (p2 &&& (3 : Int32))), .val (.int y0), .val (.int y1), .val (.int y2), .unset, .unset] [])) := by
    exact ⟨((p3 &&& (65535 : Int32)).toUInt32.toUInt16.toUInt32.toInt32), ((p4 &&& (65535 : Int32)).toUInt32.toUInt16.toUInt32.toInt32), ((p5 &&& (65535 : Int32)).toUInt32.toUInt16.toUInt32.toInt32), Tj2, _, (Stand.mono Xj2 (by decide) (by decide)), Nj2, ej2, (own_nc _), (own_nc _), (own_nc _), pre17⟩
  rcases own_and3 p2 with hn | hn | hn | hn
  · have pre22 : own_Go p e below S0 (Tj18.setTop (mkF m 63 #[.val (.int p1), .val (.int p2), .val (.int p3), .val (.int p4), .val (.int p5), .val (.int p6), .val (.int kk), .val (.ref wk), .val (.int 0), .val (.int y0), .val (.int y1), .val (.int y2), .unset, .unset] [])) := by
      intro t kt
      refine prej18 t ?_
      rw [hn]
      exact kt
    have pre23 : own_Go p e below S0 (Tj18.setTop (mkF m 71 #[.val (.int p1), .val (.int p2), .val (.int p3), .val (.int p4), .val (.int p5), .val (.int p6), .val (.int kk), .val (.ref wk), .val (.int 0), .val (.int y0), .val (.int y1), .val (.int y2), .unset, .unset] [(.int y2), (.int y1), (.int y0), (.int 0)])) := by
      intro t kt
      refine pre22 t ?_
      refine XS.iload Xj18.here hx rfl (hb hby at_63) rfl ?_
      refine XS.iload Xj18.here hx rfl (hb hby at_65) rfl ?_
      refine XS.iload Xj18.here hx rfl (hb hby at_67) rfl ?_
      refine XS.iload Xj18.here hx rfl (hb hby at_69) rfl ?_
      exact kt
    obtain ⟨_, _, ⟨T24, L24, k24, n24⟩, -, X24, hSn24, hgn24, ⟨Lc24, hQ24, l24, y24, z24, cr24⟩, st24⟩ := callSS Xj18 hx (y := own_m3) hown (mvT hZ (hw _ (own_w 5 rfl))) (mvT hZ (hw _ (own_w 6 rfl))) (mvT hZ (hw _ (own_w 7 rfl))) (mvT hZ (hw _ (own_w 8 rfl))) (by decide) (own_backH (s := s) (vm0 := s.vm) (W := 0) (rmmake0 l Z a0 hw [] y0 y1 y2 h0 n0 Z0 O0) hZ (hw _ (own_w 8 rfl)) (hw _ (own_w 7 rfl)) (by decide) (by decide) (own_EW a0 Z hw) ch0.1 all0 all0) (g := (mkF m 71 #[.val (.int p1), .val (.int p2), .val (.int p3), .val (.int p4), .val (.int p5), .val (.int p6), .val (.int kk), .val (.ref wk), .val (.int 0), .val (.int y0), .val (.int y1), .val (.int y2), .unset, .unset] [(.int y2), (.int y1), (.int y0), (.int 0)])) rfl (by rw [hml]; rfl) (argsL := [(.int 0), (.int y0), (.int y1), (.int y2)]) (rest := []) (lenOf pd_21 rfl) rfl (by show 2 * 0 + _ ≤ _; exact Nat.le_of_eq rfl) (hb hby at_71) (fun _ _ => ⟨rfl, ej18, (by decide : 0 + 4 ≤ _), (by decide : 0 + 8 ≤ _)⟩)
    dsimp only [Pt.U, Pt.locs, Pt.cells, Pt.slots] at X24 l24 y24 z24 st24 hQ24 hSn24 hgn24 cr24
    subst l24 y24 z24
    have hown := own_fc hown hSn24.1
    have hZ : Z.Warmed39 (s.setVm T24.vm).vm := State.Warmed39.trans (t := s) hZ hSn24.1
    obtain ⟨b25, vb26, kb27, rfl, Nq24, K24, g28, g29⟩ := hQ24
    have N24 := Fr.app Nj18 Nq24
    have ne30 : wk ≠ b25 := Nat.ne_of_lt (Nat.lt_of_lt_of_le pe16.lt g28)
    have ge31 : n0 ≤ b25 := Nat.le_trans Z0 g28
    have zs32 : n0 ≤ T24.heap.size := Nat.le_trans Z0 K24.1
    have ch33 : CHr Z own_EL s.vm h0 T24.vm T24.heap := ch0.trans (cr24)
    have pre34 : own_Go p e below S0 (T24.setTop (mkF m 150 #[.val (.int p1), .val (.int p2), .val (.int p3), .val (.int p4), .val (.int p5), .val (.int p6), .val (.int kk), .val (.ref wk), .val (.int 0), .val (.int y0), .val (.int y1), .val (.int y2), .val (.ref b25), .val (.int 0)] [(.int p6), (.ref b25), (.ref wk)])) := by
      intro t kt
      refine pre23 t ?_
      refine st24.trans ?_
      show Steps p.tables e below (T24.setTop (mkF m 74 #[.val (.int p1), .val (.int p2), .val (.int p3), .val (.int p4), .val (.int p5), .val (.int p6), .val (.int kk), .val (.ref wk), .val (.int 0), .val (.int y0), .val (.int y1), .val (.int y2), .unset, .unset] [(.ref b25)])) _
      refine XS.astore X24.here hx rfl (hb hby at_74) rfl rfl (l' := #[.val (.int p1), .val (.int p2), .val (.int p3), .val (.int p4), .val (.int p5), .val (.int p6), .val (.int kk), .val (.ref wk), .val (.int 0), .val (.int y0), .val (.int y1), .val (.int y2), .val (.ref b25), .unset]) rfl ?_
      refine XS.iload X24.here hx rfl (hb hby at_76) rfl ?_
      refine XS.iconst X24.here hx rfl (hb hby at_78) ?_
      refine XS.icmpYes X24.here hx rfl (pc0 := 79) (pc' := 141) rfl (hb hby at_79) rfl (tlt (by decide : (0 : Int32) < (1 : Int32))).1 (by decide) (by decide) ?_
      refine XS.iconst X24.here hx rfl (hb hby at_141) ?_
      show Steps p.tables e below (T24.setTop (mkF m 142 #[.val (.int p1), .val (.int p2), .val (.int p3), .val (.int p4), .val (.int p5), .val (.int p6), .val (.int kk), .val (.ref wk), .val (.int 0), .val (.int y0), .val (.int y1), .val (.int y2), .val (.ref b25), .unset] [(.int 0)])) _
      refine XS.istore X24.here hx rfl (hb hby at_142) rfl (l' := #[.val (.int p1), .val (.int p2), .val (.int p3), .val (.int p4), .val (.int p5), .val (.int p6), .val (.int kk), .val (.ref wk), .val (.int 0), .val (.int y0), .val (.int y1), .val (.int y2), .val (.ref b25), .val (.int 0)]) rfl ?_
      refine XS.aload X24.here hx rfl (hb hby at_144) rfl rfl ?_
      refine XS.aload X24.here hx rfl (hb hby at_146) rfl rfl ?_
      refine XS.iload X24.here hx rfl (hb hby at_148) rfl ?_
      exact kt
    have f35 : Old Z n0 T24.heap := (O0.keep K24 all0)
    have f37 : Exa Z T24.heap wk "com/example/backplane/backplane/IdSyntax" := (pe16.keep K24)
    obtain ⟨cq36, kq36, qa36, qb36, qc36⟩ := isOf hZ rfl f37
    obtain ⟨_, _, ⟨T36, L36, k36, n36⟩, -, X36, ⟨Lc36, hQ36, l36, y36, z36⟩, st36⟩ := X24.virtualBack hx (y := own_m1) (z := own_m1) hown (mvT hZ (hw _ (own_w 42 rfl))) (mvT hZ (hw _ (own_w 43 rfl))) (notFace_of_selects (args := #[]) (mvT hZ (hw _ (own_w 45 rfl)))) (mvT hZ (hw _ (own_w 45 rfl))) (mvT hZ (hw _ (own_w 44 rfl))) (by decide) (backOf (W := 0) (rmval0 l Z a0 hw [] wk b25 p6 wC wF vb26 kb27 T24.heap n0 zs32 f35 qC qU qF g29) hZ (hw _ (own_w 46 rfl)) (hw _ (own_w 2 rfl)) (by decide) (by decide)) qa36 qc36 (g := (mkF m 150 #[.val (.int p1), .val (.int p2), .val (.int p3), .val (.int p4), .val (.int p5), .val (.int p6), .val (.int kk), .val (.ref wk), .val (.int 0), .val (.int y0), .val (.int y1), .val (.int y2), .val (.ref b25), .val (.int 0)] [(.int p6), (.ref b25), (.ref wk)])) rfl (by rw [hml]; rfl) (Steps.refl _) (argsL := [(.ref b25), (.int p6)]) (rest := []) (lenOf pd_22 rfl) rfl (by show 2 * 0 + _ ≤ _; exact Nat.le_of_eq rfl) (hb hby at_150) (fun _ _ => ⟨rfl, rfl, (by decide : 4 + 0 ≤ _), (by decide : 8 + 0 ≤ _)⟩)
    dsimp only [Pt.U, Pt.locs, Pt.cells, Pt.slots] at X36 l36 y36 z36 st36 hQ36
    subst l36 y36 z36
    obtain ⟨rfl, Nq36, eq36⟩ := hQ36
    have N36 := Fr.app N24 Nq36
    have pre38 : own_Go p e below S0 (T36.setTop (mkF m 163 #[.val (.int p1), .val (.int p2), .val (.int p3), .val (.int p4), .val (.int p5), .val (.int p6), .val (.int kk), .val (.ref wk), .val (.int 0), .val (.int y0), .val (.int y1), .val (.int y2), .val (.ref b25), .val (.int 0)] [(.int 1)])) := by
      intro t kt
      refine pre34 t ?_
      refine st36.trans ?_
      show Steps p.tables e below (T36.setTop (mkF m 153 #[.val (.int p1), .val (.int p2), .val (.int p3), .val (.int p4), .val (.int p5), .val (.int p6), .val (.int kk), .val (.ref wk), .val (.int 0), .val (.int y0), .val (.int y1), .val (.int y2), .val (.ref b25), .val (.int 0)] [(.int 0)])) _
      refine XS.iload X36.here hx rfl (hb hby at_153) rfl ?_
      refine XS.icmpNo X36.here hx rfl (hb hby at_155) rfl (teq (by decide : (0 : Int32) = (0 : Int32))).2 ?_
      refine XS.iconst X36.here hx rfl (hb hby at_158) ?_
      refine XS.goto X36.here hx rfl (pc0 := 159) (pc' := 163) rfl (hb hby at_159) (by decide) (by decide) ?_
      exact kt
    obtain ⟨fs, hr, hrun, hended, hRW⟩ := Stand.leaveW (s := s) (vm₁ := T24.vm) X36 hSn24 (by rw [eq36]; exact (Nat.le_refl _)) (v := some (.int 1)) (fun h => by rw [Bd.returns] at h; cases h)
    refine ⟨_, _, fin _ (pre38 _ ?_), hrun, hended, _, _, rfl, ?_, own_wideMono hRW (by decide) (by decide)⟩
    · exact retN X36 hx (t := .boolean) Bd.returns (by simp) (hb hby at_163) hr
    · show Q0 Z p1 p2 p3 p4 p5 p6 wC wF wPLAIN wWITH_COLON wBASE64_URL h0 n0 _ T36.heap _
      rw [eq36]
      exact ⟨rfl, N36⟩
  · have pre39 : own_Go p e below S0 (Tj18.setTop (mkF m 63 #[.val (.int p1), .val (.int p2), .val (.int p3), .val (.int p4), .val (.int p5), .val (.int p6), .val (.int kk), .val (.ref wk), .val (.int 1), .val (.int y0), .val (.int y1), .val (.int y2), .unset, .unset] [])) := by
      intro t kt
      refine prej18 t ?_
      rw [hn]
      exact kt
    have pre40 : own_Go p e below S0 (Tj18.setTop (mkF m 71 #[.val (.int p1), .val (.int p2), .val (.int p3), .val (.int p4), .val (.int p5), .val (.int p6), .val (.int kk), .val (.ref wk), .val (.int 1), .val (.int y0), .val (.int y1), .val (.int y2), .unset, .unset] [(.int y2), (.int y1), (.int y0), (.int 1)])) := by
      intro t kt
      refine pre39 t ?_
      refine XS.iload Xj18.here hx rfl (hb hby at_63) rfl ?_
      refine XS.iload Xj18.here hx rfl (hb hby at_65) rfl ?_
      refine XS.iload Xj18.here hx rfl (hb hby at_67) rfl ?_
      refine XS.iload Xj18.here hx rfl (hb hby at_69) rfl ?_
      exact kt
    obtain ⟨_, _, ⟨T41, L41, k41, n41⟩, -, X41, ⟨Lc41, hQ41, l41, y41, z41⟩, st41⟩ := Jvm.LawKit.callS Xj18 hx (y := own_m3) hown (mvT hZ (hw _ (own_w 5 rfl))) (mvT hZ (hw _ (own_w 6 rfl))) (mvT hZ (hw _ (own_w 7 rfl))) (mvT hZ (hw _ (own_w 8 rfl))) (by decide) (backOf (W := 0) (rmmake1 l Z a0 hw [] y0 y1 y2 wC h0 n0 Z0 O0 qC qU) hZ (hw _ (own_w 8 rfl)) (hw _ (own_w 7 rfl)) (by decide) (by decide)) (g := (mkF m 71 #[.val (.int p1), .val (.int p2), .val (.int p3), .val (.int p4), .val (.int p5), .val (.int p6), .val (.int kk), .val (.ref wk), .val (.int 1), .val (.int y0), .val (.int y1), .val (.int y2), .unset, .unset] [(.int y2), (.int y1), (.int y0), (.int 1)])) rfl (by rw [hml]; rfl) (argsL := [(.int 1), (.int y0), (.int y1), (.int y2)]) (rest := []) (lenOf pd_21 rfl) rfl (by show 2 * 0 + _ ≤ _; exact Nat.le_of_eq rfl) (hb hby at_71) (fun _ _ => ⟨rfl, ej18, (by decide : 0 + 4 ≤ _), (by decide : 0 + 8 ≤ _)⟩)
    dsimp only [Pt.U, Pt.locs, Pt.cells, Pt.slots] at X41 l41 y41 z41 st41 hQ41
    subst l41 y41 z41
    obtain ⟨b42, vb43, kb44, rfl, Nq41, K41, g45, g46, g47⟩ := hQ41
    have N41 := Fr.app Nj18 Nq41
    have ne48 : wk ≠ b42 := Nat.ne_of_lt (Nat.lt_of_lt_of_le pe16.lt g45)
    have ge49 : n0 ≤ b42 := Nat.le_trans Z0 g45
    have ne50 : wk ≠ vb43 := Nat.ne_of_lt (Nat.lt_of_lt_of_le pe16.lt g46)
    have ge51 : n0 ≤ vb43 := Nat.le_trans Z0 g46
    have zs52 : n0 ≤ T41.heap.size := Nat.le_trans Z0 K41.1
    have pre53 : own_Go p e below S0 (T41.setTop (mkF m 76 #[.val (.int p1), .val (.int p2), .val (.int p3), .val (.int p4), .val (.int p5), .val (.int p6), .val (.int kk), .val (.ref wk), .val (.int 1), .val (.int y0), .val (.int y1), .val (.int y2), .val (.ref b42), .unset] [])) := by
      intro t kt
      refine pre40 t ?_
      refine st41 _ ?_
      show Steps p.tables e below (T41.setTop (mkF m 74 #[.val (.int p1), .val (.int p2), .val (.int p3), .val (.int p4), .val (.int p5), .val (.int p6), .val (.int kk), .val (.ref wk), .val (.int 1), .val (.int y0), .val (.int y1), .val (.int y2), .unset, .unset] [(.ref b42)])) _
      refine XS.astore X41.here hx rfl (hb hby at_74) rfl rfl (l' := #[.val (.int p1), .val (.int p2), .val (.int p3), .val (.int p4), .val (.int p5), .val (.int p6), .val (.int kk), .val (.ref wk), .val (.int 1), .val (.int y0), .val (.int y1), .val (.int y2), .val (.ref b42), .unset]) rfl ?_
      exact kt
    obtain ⟨Tj54, lj54, Xj54, Nj54, ej54, prej54⟩ : ∃ (Tj54 : State) (lj54 : List Loc), Stand p l e room_1 s m #[(.int p1), (.int p2), (.int p3), (.int p4), (.int p5), (.int p6)] below meth c Tj54 lj54 4 8 ∧ Fr n0 lj54 ∧ Tj54.heap = T41.heap ∧ own_Go p e below S0 (Tj54.setTop (mkF m 142 #[.val (.int p1), .val (.int p2), .val (.int p3), .val (.int p4), .val (.int p5), .val (.int p6), .val (.int kk), .val (.ref wk), .val (.int 1), .val (.int y0), .val (.int y1), .val (.int y2), .val (.ref b42), .unset] [(.int (own_val1 kk y0 p6))])) := by
      have pre56 : own_Go p e below S0 (T41.setTop (mkF m 86 #[.val (.int p1), .val (.int p2), .val (.int p3), .val (.int p4), .val (.int p5), .val (.int p6), .val (.int kk), .val (.ref wk), .val (.int 1), .val (.int y0), .val (.int y1), .val (.int y2), .val (.ref b42), .unset] [(.int p6), (.int 1)])) := by
        intro t kt
        refine pre53 t ?_
        refine XS.iload X41.here hx rfl (hb hby at_76) rfl ?_
        refine XS.iconst X41.here hx rfl (hb hby at_78) ?_
        refine XS.icmpNo X41.here hx rfl (hb hby at_79) rfl (flt (by decide : ¬ ((1 : Int32) < (1 : Int32)))).1 ?_
        refine XS.iload X41.here hx rfl (hb hby at_82) rfl ?_
        refine XS.iload X41.here hx rfl (hb hby at_84) rfl ?_
        exact kt
      by_cases hc55 : p6 < (1 : Int32)
      · have pre57 : own_Go p e below S0 (T41.setTop (mkF m 142 #[.val (.int p1), .val (.int p2), .val (.int p3), .val (.int p4), .val (.int p5), .val (.int p6), .val (.int kk), .val (.ref wk), .val (.int 1), .val (.int y0), .val (.int y1), .val (.int y2), .val (.ref b42), .unset] [(.int 0)])) := by
          intro t kt
          refine pre56 t ?_
          refine XS.icmpYes X41.here hx rfl (pc0 := 86) (pc' := 141) rfl (hb hby at_86) rfl (tlt hc55).2.2.1 (by decide) (by decide) ?_
          refine XS.iconst X41.here hx rfl (hb hby at_141) ?_
          exact kt
        have pre58 : own_Go p e below S0 (T41.setTop (mkF m 142 #[.val (.int p1), .val (.int p2), .val (.int p3), .val (.int p4), .val (.int p5), .val (.int p6), .val (.int kk), .val (.ref wk), .val (.int 1), .val (.int y0), .val (.int y1), .val (.int y2), .val (.ref b42), .unset] [(.int (own_val1 kk y0 p6))])) := by
          intro t kt
          refine pre57 t ?_
          exact castTop (by rw [own_val1, if_pos hc55]) kt
        exact ⟨T41, _, (Stand.mono X41 (by decide) (by decide)), N41, rfl, pre58⟩
      · have pre59 : own_Go p e below S0 (T41.setTop (mkF m 99 #[.val (.int p1), .val (.int p2), .val (.int p3), .val (.int p4), .val (.int p5), .val (.int p6), .val (.int kk), .val (.ref wk), .val (.int 1), .val (.int y0), .val (.int y1), .val (.int y2), .val (.ref b42), .unset] [(.int y0), (.int kk)])) := by
          intro t kt
          refine pre56 t ?_
          refine XS.icmpNo X41.here hx rfl (hb hby at_86) rfl (flt hc55).2.2.1 ?_
          refine XS.iload X41.here hx rfl (hb hby at_89) rfl ?_
          refine XS.iconst X41.here hx rfl (hb hby at_91) ?_
          refine XS.icmpNo X41.here hx rfl (hb hby at_92) rfl (flt (by decide : ¬ ((1 : Int32) < (1 : Int32)))).1 ?_
          refine XS.iload X41.here hx rfl (hb hby at_95) rfl ?_
          refine XS.iload X41.here hx rfl (hb hby at_97) rfl ?_
          show Steps p.tables e below (T41.setTop (mkF m 99 #[.val (.int p1), .val (.int p2), .val (.int p3), .val (.int p4), .val (.int p5), .val (.int p6), .val (.int kk), .val (.ref wk), .val (.int 1), .val (.int y0), .val (.int y1), .val (.int y2), .val (.ref b42), .unset] [(.int y0), (.int kk)])) _
          exact kt
        obtain ⟨_, _, ⟨T60, L60, k60, n60⟩, -, X60, ⟨Lc60, hQ60, l60, y60, z60⟩, st60⟩ := Jvm.LawKit.callS X41 hx (y := own_m2) hown (mvT hZ (hw _ (own_w 39 rfl))) (mvT hZ (hw _ (own_w 40 rfl))) (mvT hZ (hw _ (own_w 7 rfl))) (mvT hZ (hw _ (own_w 41 rfl))) (by decide) (backOf (W := 0) (rm8 l Z a0 hw [] kk y0 T41.heap n0 zs52 ) hZ (hw _ (own_w 41 rfl)) (hw _ (own_w 7 rfl)) (by decide) (by decide)) (g := (mkF m 99 #[.val (.int p1), .val (.int p2), .val (.int p3), .val (.int p4), .val (.int p5), .val (.int p6), .val (.int kk), .val (.ref wk), .val (.int 1), .val (.int y0), .val (.int y1), .val (.int y2), .val (.ref b42), .unset] [(.int y0), (.int kk)])) rfl (by rw [hml]; rfl) (argsL := [(.int kk), (.int y0)]) (rest := []) (lenOf pd_23 rfl) rfl (by show 2 * 0 + _ ≤ _; exact Nat.le_of_eq rfl) (hb hby at_99) (fun _ _ => ⟨rfl, rfl, (by decide : 4 + 0 ≤ _), (by decide : 8 + 0 ≤ _)⟩)
        dsimp only [Pt.U, Pt.locs, Pt.cells, Pt.slots] at X60 l60 y60 z60 st60 hQ60
        subst l60 y60 z60
        obtain ⟨rfl, Nq60, eq60⟩ := hQ60
        have N60 := Fr.app N41 Nq60
        have pre62 : own_Go p e below S0 (T60.setTop (mkF m 102 #[.val (.int p1), .val (.int p2), .val (.int p3), .val (.int p4), .val (.int p5), .val (.int p6), .val (.int kk), .val (.ref wk), .val (.int 1), .val (.int y0), .val (.int y1), .val (.int y2), .val (.ref b42), .unset] [(.int (own_al kk y0))])) := by
          intro t kt
          refine pre59 t ?_
          refine st60 _ ?_
          show Steps p.tables e below (T60.setTop (mkF m 102 #[.val (.int p1), .val (.int p2), .val (.int p3), .val (.int p4), .val (.int p5), .val (.int p6), .val (.int kk), .val (.ref wk), .val (.int 1), .val (.int y0), .val (.int y1), .val (.int y2), .val (.ref b42), .unset] [(.int (own_al kk y0))])) _
          exact kt
        by_cases hc61 : (own_al kk y0) = (0 : Int32)
        · have pre63 : own_Go p e below S0 (T60.setTop (mkF m 142 #[.val (.int p1), .val (.int p2), .val (.int p3), .val (.int p4), .val (.int p5), .val (.int p6), .val (.int kk), .val (.ref wk), .val (.int 1), .val (.int y0), .val (.int y1), .val (.int y2), .val (.ref b42), .unset] [(.int 0)])) := by
            intro t kt
            refine pre62 t ?_
            refine XS.ifYes X60.here hx rfl (pc0 := 102) (pc' := 141) rfl (hb hby at_102) rfl ((if0 _ _).trans (teq hc61).1) (by decide) (by decide) ?_
            refine XS.iconst X60.here hx rfl (hb hby at_141) ?_
            exact kt
          have pre64 : own_Go p e below S0 (T60.setTop (mkF m 142 #[.val (.int p1), .val (.int p2), .val (.int p3), .val (.int p4), .val (.int p5), .val (.int p6), .val (.int kk), .val (.ref wk), .val (.int 1), .val (.int y0), .val (.int y1), .val (.int y2), .val (.ref b42), .unset] [(.int (own_val1 kk y0 p6))])) := by
            intro t kt
            refine pre63 t ?_
            exact castTop (by rw [own_val1, if_neg hc55, if_pos hc61]) kt
          exact ⟨T60, _, (Stand.mono X60 (by decide) (by decide)), N60, eq60, pre64⟩
        · have pre65 : own_Go p e below S0 (T60.setTop (mkF m 142 #[.val (.int p1), .val (.int p2), .val (.int p3), .val (.int p4), .val (.int p5), .val (.int p6), .val (.int kk), .val (.ref wk), .val (.int 1), .val (.int y0), .val (.int y1), .val (.int y2), .val (.ref b42), .unset] [(.int 1)])) := by
            intro t kt
            refine pre62 t ?_
            refine XS.ifNo X60.here hx rfl (hb hby at_102) rfl ((if0 _ _).trans (feq hc61).1) ?_
            refine XS.iload X60.here hx rfl (hb hby at_105) rfl ?_
            refine XS.iconst X60.here hx rfl (hb hby at_107) ?_
            refine XS.icmpYes X60.here hx rfl (pc0 := 108) (pc' := 121) rfl (hb hby at_108) rfl (tlt (by decide : (1 : Int32) < (2 : Int32))).1 (by decide) (by decide) ?_
            refine XS.iload X60.here hx rfl (hb hby at_121) rfl ?_
            refine XS.iconst X60.here hx rfl (hb hby at_123) ?_
            show Steps p.tables e below (T60.setTop (mkF m 124 #[.val (.int p1), .val (.int p2), .val (.int p3), .val (.int p4), .val (.int p5), .val (.int p6), .val (.int kk), .val (.ref wk), .val (.int 1), .val (.int y0), .val (.int y1), .val (.int y2), .val (.ref b42), .unset] [(.int 3), (.int 1)])) _
            refine XS.icmpYes X60.here hx rfl (pc0 := 124) (pc' := 137) rfl (hb hby at_124) rfl (tlt (by decide : (1 : Int32) < (3 : Int32))).1 (by decide) (by decide) ?_
            refine XS.iconst X60.here hx rfl (hb hby at_137) ?_
            refine XS.goto X60.here hx rfl (pc0 := 138) (pc' := 142) rfl (hb hby at_138) (by decide) (by decide) ?_
            exact kt
          have pre66 : own_Go p e below S0 (T60.setTop (mkF m 142 #[.val (.int p1), .val (.int p2), .val (.int p3), .val (.int p4), .val (.int p5), .val (.int p6), .val (.int kk), .val (.ref wk), .val (.int 1), .val (.int y0), .val (.int y1), .val (.int y2), .val (.ref b42), .unset] [(.int (own_val1 kk y0 p6))])) := by
            intro t kt
            refine pre65 t ?_
            exact castTop (by rw [own_val1, if_neg hc55, if_neg hc61]) kt
          exact ⟨T60, _, (Stand.mono X60 (by decide) (by decide)), N60, eq60, pre66⟩
    have pre67 : own_Go p e below S0 (Tj54.setTop (mkF m 150 #[.val (.int p1), .val (.int p2), .val (.int p3), .val (.int p4), .val (.int p5), .val (.int p6), .val (.int kk), .val (.ref wk), .val (.int 1), .val (.int y0), .val (.int y1), .val (.int y2), .val (.ref b42), .val (.int (own_val1 kk y0 p6))] [(.int p6), (.ref b42), (.ref wk)])) := by
      intro t kt
      refine prej54 t ?_
      refine XS.istore Xj54.here hx rfl (hb hby at_142) rfl (l' := #[.val (.int p1), .val (.int p2), .val (.int p3), .val (.int p4), .val (.int p5), .val (.int p6), .val (.int kk), .val (.ref wk), .val (.int 1), .val (.int y0), .val (.int y1), .val (.int y2), .val (.ref b42), .val (.int (own_val1 kk y0 p6))]) rfl ?_
      refine XS.aload Xj54.here hx rfl (hb hby at_144) rfl rfl ?_
      refine XS.aload Xj54.here hx rfl (hb hby at_146) rfl rfl ?_
      refine XS.iload Xj54.here hx rfl (hb hby at_148) rfl ?_
      exact kt
    have f68 : Old Z n0 T41.heap := (O0.keep K41 all0)
    have f70 : Exa Z T41.heap wk "com/example/backplane/backplane/IdSyntax" := (pe16.keep K41)
    obtain ⟨cq69, kq69, qa69, qb69, qc69⟩ := isOf hZ ej54 f70
    obtain ⟨_, _, ⟨T69, L69, k69, n69⟩, -, X69, ⟨Lc69, hQ69, l69, y69, z69⟩, st69⟩ := Xj54.virtualBack hx (y := own_m1) (z := own_m1) hown (mvT hZ (hw _ (own_w 42 rfl))) (mvT hZ (hw _ (own_w 43 rfl))) (notFace_of_selects (args := #[]) (mvT hZ (hw _ (own_w 45 rfl)))) (mvT hZ (hw _ (own_w 45 rfl))) (mvT hZ (hw _ (own_w 44 rfl))) (by decide) (backOf (W := 0) (rmval1 l Z a0 hw [] wk b42 p6 wC wF vb43 kb44 (nar .char y0) kk T41.heap n0 zs52 f68 qC qU qF g47 pj15) hZ (hw _ (own_w 46 rfl)) (hw _ (own_w 2 rfl)) (by decide) (by decide)) qa69 qc69 (g := (mkF m 150 #[.val (.int p1), .val (.int p2), .val (.int p3), .val (.int p4), .val (.int p5), .val (.int p6), .val (.int kk), .val (.ref wk), .val (.int 1), .val (.int y0), .val (.int y1), .val (.int y2), .val (.ref b42), .val (.int (own_val1 kk y0 p6))] [(.int p6), (.ref b42), (.ref wk)])) rfl (by rw [hml]; rfl) (Steps.refl _) (argsL := [(.ref b42), (.int p6)]) (rest := []) (lenOf pd_22 rfl) rfl (by show 2 * 0 + _ ≤ _; exact Nat.le_of_eq rfl) (hb hby at_150) (fun _ _ => ⟨rfl, ej54, (by decide : 4 + 0 ≤ _), (by decide : 8 + 0 ≤ _)⟩)
    dsimp only [Pt.U, Pt.locs, Pt.cells, Pt.slots] at X69 l69 y69 z69 st69 hQ69
    subst l69 y69 z69
    obtain ⟨rfl, Nq69, eq69⟩ := hQ69
    have N69 := Fr.app Nj54 Nq69
    have pre71 : own_Go p e below S0 (T69.setTop (mkF m 163 #[.val (.int p1), .val (.int p2), .val (.int p3), .val (.int p4), .val (.int p5), .val (.int p6), .val (.int kk), .val (.ref wk), .val (.int 1), .val (.int y0), .val (.int y1), .val (.int y2), .val (.ref b42), .val (.int (own_val1 kk y0 p6))] [(.int 1)])) := by
      intro t kt
      refine pre67 t ?_
      refine st69.trans ?_
      show Steps p.tables e below (T69.setTop (mkF m 153 #[.val (.int p1), .val (.int p2), .val (.int p3), .val (.int p4), .val (.int p5), .val (.int p6), .val (.int kk), .val (.ref wk), .val (.int 1), .val (.int y0), .val (.int y1), .val (.int y2), .val (.ref b42), .val (.int (own_val1 kk y0 p6))] [(.int (own_val1 kk (nar .char y0) p6))])) _
      refine XS.iload X69.here hx rfl (hb hby at_153) rfl ?_
      refine XS.icmpNo X69.here hx rfl (hb hby at_155) rfl (teq (by rw [pj19])).2 ?_
      refine XS.iconst X69.here hx rfl (hb hby at_158) ?_
      refine XS.goto X69.here hx rfl (pc0 := 159) (pc' := 163) rfl (hb hby at_159) (by decide) (by decide) ?_
      exact kt
    obtain ⟨fs, hr, hrun, hended, hW, hsame⟩ := X69.leave (v := some (.int 1)) (fun h => by rw [Bd.returns] at h; cases h)
    refine ⟨_, _, fin _ (pre71 _ ?_), hrun, hended, _, _, rfl, ?_, own_wideMono (ReturnedEndW.of_narrow ⟨_, rfl⟩ hW hsame) (by decide) (by decide)⟩
    · exact retN X69 hx (t := .boolean) Bd.returns (by simp) (hb hby at_163) hr
    · show Q0 Z p1 p2 p3 p4 p5 p6 wC wF wPLAIN wWITH_COLON wBASE64_URL h0 n0 _ T69.heap _
      rw [eq69]
      exact ⟨rfl, N69⟩
  · have pre72 : own_Go p e below S0 (Tj18.setTop (mkF m 63 #[.val (.int p1), .val (.int p2), .val (.int p3), .val (.int p4), .val (.int p5), .val (.int p6), .val (.int kk), .val (.ref wk), .val (.int 2), .val (.int y0), .val (.int y1), .val (.int y2), .unset, .unset] [])) := by
      intro t kt
      refine prej18 t ?_
      rw [hn]
      exact kt
    have pre73 : own_Go p e below S0 (Tj18.setTop (mkF m 71 #[.val (.int p1), .val (.int p2), .val (.int p3), .val (.int p4), .val (.int p5), .val (.int p6), .val (.int kk), .val (.ref wk), .val (.int 2), .val (.int y0), .val (.int y1), .val (.int y2), .unset, .unset] [(.int y2), (.int y1), (.int y0), (.int 2)])) := by
      intro t kt
      refine pre72 t ?_
      refine XS.iload Xj18.here hx rfl (hb hby at_63) rfl ?_
      refine XS.iload Xj18.here hx rfl (hb hby at_65) rfl ?_
      refine XS.iload Xj18.here hx rfl (hb hby at_67) rfl ?_
      refine XS.iload Xj18.here hx rfl (hb hby at_69) rfl ?_
      exact kt
    obtain ⟨_, _, ⟨T74, L74, k74, n74⟩, -, X74, ⟨Lc74, hQ74, l74, y74, z74⟩, st74⟩ := Jvm.LawKit.callS Xj18 hx (y := own_m3) hown (mvT hZ (hw _ (own_w 5 rfl))) (mvT hZ (hw _ (own_w 6 rfl))) (mvT hZ (hw _ (own_w 7 rfl))) (mvT hZ (hw _ (own_w 8 rfl))) (by decide) (backOf (W := 0) (rmmake2 l Z a0 hw [] y0 y1 y2 wC h0 n0 Z0 O0 qC qU) hZ (hw _ (own_w 8 rfl)) (hw _ (own_w 7 rfl)) (by decide) (by decide)) (g := (mkF m 71 #[.val (.int p1), .val (.int p2), .val (.int p3), .val (.int p4), .val (.int p5), .val (.int p6), .val (.int kk), .val (.ref wk), .val (.int 2), .val (.int y0), .val (.int y1), .val (.int y2), .unset, .unset] [(.int y2), (.int y1), (.int y0), (.int 2)])) rfl (by rw [hml]; rfl) (argsL := [(.int 2), (.int y0), (.int y1), (.int y2)]) (rest := []) (lenOf pd_21 rfl) rfl (by show 2 * 0 + _ ≤ _; exact Nat.le_of_eq rfl) (hb hby at_71) (fun _ _ => ⟨rfl, ej18, (by decide : 0 + 4 ≤ _), (by decide : 0 + 12 ≤ _)⟩)
    dsimp only [Pt.U, Pt.locs, Pt.cells, Pt.slots] at X74 l74 y74 z74 st74 hQ74
    subst l74 y74 z74
    obtain ⟨b75, vb76, kb77, rfl, Nq74, K74, g78, g79, g80⟩ := hQ74
    have N74 := Fr.app Nj18 Nq74
    have ne81 : wk ≠ b75 := Nat.ne_of_lt (Nat.lt_of_lt_of_le pe16.lt g78)
    have ge82 : n0 ≤ b75 := Nat.le_trans Z0 g78
    have ne83 : wk ≠ vb76 := Nat.ne_of_lt (Nat.lt_of_lt_of_le pe16.lt g79)
    have ge84 : n0 ≤ vb76 := Nat.le_trans Z0 g79
    have zs85 : n0 ≤ T74.heap.size := Nat.le_trans Z0 K74.1
    have pre86 : own_Go p e below S0 (T74.setTop (mkF m 76 #[.val (.int p1), .val (.int p2), .val (.int p3), .val (.int p4), .val (.int p5), .val (.int p6), .val (.int kk), .val (.ref wk), .val (.int 2), .val (.int y0), .val (.int y1), .val (.int y2), .val (.ref b75), .unset] [])) := by
      intro t kt
      refine pre73 t ?_
      refine st74 _ ?_
      show Steps p.tables e below (T74.setTop (mkF m 74 #[.val (.int p1), .val (.int p2), .val (.int p3), .val (.int p4), .val (.int p5), .val (.int p6), .val (.int kk), .val (.ref wk), .val (.int 2), .val (.int y0), .val (.int y1), .val (.int y2), .unset, .unset] [(.ref b75)])) _
      refine XS.astore X74.here hx rfl (hb hby at_74) rfl rfl (l' := #[.val (.int p1), .val (.int p2), .val (.int p3), .val (.int p4), .val (.int p5), .val (.int p6), .val (.int kk), .val (.ref wk), .val (.int 2), .val (.int y0), .val (.int y1), .val (.int y2), .val (.ref b75), .unset]) rfl ?_
      exact kt
    obtain ⟨Tj87, lj87, Xj87, Nj87, ej87, prej87⟩ : ∃ (Tj87 : State) (lj87 : List Loc), Stand p l e room_1 s m #[(.int p1), (.int p2), (.int p3), (.int p4), (.int p5), (.int p6)] below meth c Tj87 lj87 4 12 ∧ Fr n0 lj87 ∧ Tj87.heap = T74.heap ∧ own_Go p e below S0 (Tj87.setTop (mkF m 142 #[.val (.int p1), .val (.int p2), .val (.int p3), .val (.int p4), .val (.int p5), .val (.int p6), .val (.int kk), .val (.ref wk), .val (.int 2), .val (.int y0), .val (.int y1), .val (.int y2), .val (.ref b75), .unset] [(.int (own_val2 kk y0 y1 p6))])) := by
      have pre89 : own_Go p e below S0 (T74.setTop (mkF m 86 #[.val (.int p1), .val (.int p2), .val (.int p3), .val (.int p4), .val (.int p5), .val (.int p6), .val (.int kk), .val (.ref wk), .val (.int 2), .val (.int y0), .val (.int y1), .val (.int y2), .val (.ref b75), .unset] [(.int p6), (.int 2)])) := by
        intro t kt
        refine pre86 t ?_
        refine XS.iload X74.here hx rfl (hb hby at_76) rfl ?_
        refine XS.iconst X74.here hx rfl (hb hby at_78) ?_
        refine XS.icmpNo X74.here hx rfl (hb hby at_79) rfl (flt (by decide : ¬ ((2 : Int32) < (1 : Int32)))).1 ?_
        refine XS.iload X74.here hx rfl (hb hby at_82) rfl ?_
        refine XS.iload X74.here hx rfl (hb hby at_84) rfl ?_
        exact kt
      by_cases hc88 : p6 < (2 : Int32)
      · have pre90 : own_Go p e below S0 (T74.setTop (mkF m 142 #[.val (.int p1), .val (.int p2), .val (.int p3), .val (.int p4), .val (.int p5), .val (.int p6), .val (.int kk), .val (.ref wk), .val (.int 2), .val (.int y0), .val (.int y1), .val (.int y2), .val (.ref b75), .unset] [(.int 0)])) := by
          intro t kt
          refine pre89 t ?_
          refine XS.icmpYes X74.here hx rfl (pc0 := 86) (pc' := 141) rfl (hb hby at_86) rfl (tlt hc88).2.2.1 (by decide) (by decide) ?_
          refine XS.iconst X74.here hx rfl (hb hby at_141) ?_
          exact kt
        have pre91 : own_Go p e below S0 (T74.setTop (mkF m 142 #[.val (.int p1), .val (.int p2), .val (.int p3), .val (.int p4), .val (.int p5), .val (.int p6), .val (.int kk), .val (.ref wk), .val (.int 2), .val (.int y0), .val (.int y1), .val (.int y2), .val (.ref b75), .unset] [(.int (own_val2 kk y0 y1 p6))])) := by
          intro t kt
          refine pre90 t ?_
          exact castTop (by rw [own_val2, if_pos hc88]) kt
        exact ⟨T74, _, (Stand.mono X74 (by decide) (by decide)), N74, rfl, pre91⟩
      · have pre92 : own_Go p e below S0 (T74.setTop (mkF m 99 #[.val (.int p1), .val (.int p2), .val (.int p3), .val (.int p4), .val (.int p5), .val (.int p6), .val (.int kk), .val (.ref wk), .val (.int 2), .val (.int y0), .val (.int y1), .val (.int y2), .val (.ref b75), .unset] [(.int y0), (.int kk)])) := by
          intro t kt
          refine pre89 t ?_
          refine XS.icmpNo X74.here hx rfl (hb hby at_86) rfl (flt hc88).2.2.1 ?_
          refine XS.iload X74.here hx rfl (hb hby at_89) rfl ?_
          refine XS.iconst X74.here hx rfl (hb hby at_91) ?_
          refine XS.icmpNo X74.here hx rfl (hb hby at_92) rfl (flt (by decide : ¬ ((2 : Int32) < (1 : Int32)))).1 ?_
          refine XS.iload X74.here hx rfl (hb hby at_95) rfl ?_
          refine XS.iload X74.here hx rfl (hb hby at_97) rfl ?_
          show Steps p.tables e below (T74.setTop (mkF m 99 #[.val (.int p1), .val (.int p2), .val (.int p3), .val (.int p4), .val (.int p5), .val (.int p6), .val (.int kk), .val (.ref wk), .val (.int 2), .val (.int y0), .val (.int y1), .val (.int y2), .val (.ref b75), .unset] [(.int y0), (.int kk)])) _
          exact kt
        obtain ⟨_, _, ⟨T93, L93, k93, n93⟩, -, X93, ⟨Lc93, hQ93, l93, y93, z93⟩, st93⟩ := Jvm.LawKit.callS X74 hx (y := own_m2) hown (mvT hZ (hw _ (own_w 39 rfl))) (mvT hZ (hw _ (own_w 40 rfl))) (mvT hZ (hw _ (own_w 7 rfl))) (mvT hZ (hw _ (own_w 41 rfl))) (by decide) (backOf (W := 0) (rm8 l Z a0 hw [] kk y0 T74.heap n0 zs85 ) hZ (hw _ (own_w 41 rfl)) (hw _ (own_w 7 rfl)) (by decide) (by decide)) (g := (mkF m 99 #[.val (.int p1), .val (.int p2), .val (.int p3), .val (.int p4), .val (.int p5), .val (.int p6), .val (.int kk), .val (.ref wk), .val (.int 2), .val (.int y0), .val (.int y1), .val (.int y2), .val (.ref b75), .unset] [(.int y0), (.int kk)])) rfl (by rw [hml]; rfl) (argsL := [(.int kk), (.int y0)]) (rest := []) (lenOf pd_23 rfl) rfl (by show 2 * 0 + _ ≤ _; exact Nat.le_of_eq rfl) (hb hby at_99) (fun _ _ => ⟨rfl, rfl, (by decide : 4 + 0 ≤ _), (by decide : 12 + 0 ≤ _)⟩)
        dsimp only [Pt.U, Pt.locs, Pt.cells, Pt.slots] at X93 l93 y93 z93 st93 hQ93
        subst l93 y93 z93
        obtain ⟨rfl, Nq93, eq93⟩ := hQ93
        have N93 := Fr.app N74 Nq93
        have pre95 : own_Go p e below S0 (T93.setTop (mkF m 102 #[.val (.int p1), .val (.int p2), .val (.int p3), .val (.int p4), .val (.int p5), .val (.int p6), .val (.int kk), .val (.ref wk), .val (.int 2), .val (.int y0), .val (.int y1), .val (.int y2), .val (.ref b75), .unset] [(.int (own_al kk y0))])) := by
          intro t kt
          refine pre92 t ?_
          refine st93 _ ?_
          show Steps p.tables e below (T93.setTop (mkF m 102 #[.val (.int p1), .val (.int p2), .val (.int p3), .val (.int p4), .val (.int p5), .val (.int p6), .val (.int kk), .val (.ref wk), .val (.int 2), .val (.int y0), .val (.int y1), .val (.int y2), .val (.ref b75), .unset] [(.int (own_al kk y0))])) _
          exact kt
        by_cases hc94 : (own_al kk y0) = (0 : Int32)
        · have pre96 : own_Go p e below S0 (T93.setTop (mkF m 142 #[.val (.int p1), .val (.int p2), .val (.int p3), .val (.int p4), .val (.int p5), .val (.int p6), .val (.int kk), .val (.ref wk), .val (.int 2), .val (.int y0), .val (.int y1), .val (.int y2), .val (.ref b75), .unset] [(.int 0)])) := by
            intro t kt
            refine pre95 t ?_
            refine XS.ifYes X93.here hx rfl (pc0 := 102) (pc' := 141) rfl (hb hby at_102) rfl ((if0 _ _).trans (teq hc94).1) (by decide) (by decide) ?_
            refine XS.iconst X93.here hx rfl (hb hby at_141) ?_
            exact kt
          have pre97 : own_Go p e below S0 (T93.setTop (mkF m 142 #[.val (.int p1), .val (.int p2), .val (.int p3), .val (.int p4), .val (.int p5), .val (.int p6), .val (.int kk), .val (.ref wk), .val (.int 2), .val (.int y0), .val (.int y1), .val (.int y2), .val (.ref b75), .unset] [(.int (own_val2 kk y0 y1 p6))])) := by
            intro t kt
            refine pre96 t ?_
            exact castTop (by rw [own_val2, if_neg hc88, if_pos hc94]) kt
          exact ⟨T93, _, (Stand.mono X93 (by decide) (by decide)), N93, eq93, pre97⟩
        · have pre98 : own_Go p e below S0 (T93.setTop (mkF m 115 #[.val (.int p1), .val (.int p2), .val (.int p3), .val (.int p4), .val (.int p5), .val (.int p6), .val (.int kk), .val (.ref wk), .val (.int 2), .val (.int y0), .val (.int y1), .val (.int y2), .val (.ref b75), .unset] [(.int y1), (.int kk)])) := by
            intro t kt
            refine pre95 t ?_
            refine XS.ifNo X93.here hx rfl (hb hby at_102) rfl ((if0 _ _).trans (feq hc94).1) ?_
            refine XS.iload X93.here hx rfl (hb hby at_105) rfl ?_
            refine XS.iconst X93.here hx rfl (hb hby at_107) ?_
            refine XS.icmpNo X93.here hx rfl (hb hby at_108) rfl (flt (by decide : ¬ ((2 : Int32) < (2 : Int32)))).1 ?_
            refine XS.iload X93.here hx rfl (hb hby at_111) rfl ?_
            refine XS.iload X93.here hx rfl (hb hby at_113) rfl ?_
            show Steps p.tables e below (T93.setTop (mkF m 115 #[.val (.int p1), .val (.int p2), .val (.int p3), .val (.int p4), .val (.int p5), .val (.int p6), .val (.int kk), .val (.ref wk), .val (.int 2), .val (.int y0), .val (.int y1), .val (.int y2), .val (.ref b75), .unset] [(.int y1), (.int kk)])) _
            exact kt
          obtain ⟨_, _, ⟨T99, L99, k99, n99⟩, -, X99, ⟨Lc99, hQ99, l99, y99, z99⟩, st99⟩ := Jvm.LawKit.callS X93 hx (y := own_m2) hown (mvT hZ (hw _ (own_w 39 rfl))) (mvT hZ (hw _ (own_w 40 rfl))) (mvT hZ (hw _ (own_w 7 rfl))) (mvT hZ (hw _ (own_w 41 rfl))) (by decide) (backOf (W := 0) (rm8 l Z a0 hw [] kk y1 T74.heap n0 zs85 ) hZ (hw _ (own_w 41 rfl)) (hw _ (own_w 7 rfl)) (by decide) (by decide)) (g := (mkF m 115 #[.val (.int p1), .val (.int p2), .val (.int p3), .val (.int p4), .val (.int p5), .val (.int p6), .val (.int kk), .val (.ref wk), .val (.int 2), .val (.int y0), .val (.int y1), .val (.int y2), .val (.ref b75), .unset] [(.int y1), (.int kk)])) rfl (by rw [hml]; rfl) (argsL := [(.int kk), (.int y1)]) (rest := []) (lenOf pd_23 rfl) rfl (by show 2 * 0 + _ ≤ _; exact Nat.le_of_eq rfl) (hb hby at_115) (fun _ _ => ⟨rfl, eq93, (by decide : 4 + 0 ≤ _), (by decide : 12 + 0 ≤ _)⟩)
          dsimp only [Pt.U, Pt.locs, Pt.cells, Pt.slots] at X99 l99 y99 z99 st99 hQ99
          subst l99 y99 z99
          obtain ⟨rfl, Nq99, eq99⟩ := hQ99
          have N99 := Fr.app N93 Nq99
          have pre101 : own_Go p e below S0 (T99.setTop (mkF m 118 #[.val (.int p1), .val (.int p2), .val (.int p3), .val (.int p4), .val (.int p5), .val (.int p6), .val (.int kk), .val (.ref wk), .val (.int 2), .val (.int y0), .val (.int y1), .val (.int y2), .val (.ref b75), .unset] [(.int (own_al kk y1))])) := by
            intro t kt
            refine pre98 t ?_
            refine st99 _ ?_
            show Steps p.tables e below (T99.setTop (mkF m 118 #[.val (.int p1), .val (.int p2), .val (.int p3), .val (.int p4), .val (.int p5), .val (.int p6), .val (.int kk), .val (.ref wk), .val (.int 2), .val (.int y0), .val (.int y1), .val (.int y2), .val (.ref b75), .unset] [(.int (own_al kk y1))])) _
            exact kt
          by_cases hc100 : (own_al kk y1) = (0 : Int32)
          · have pre102 : own_Go p e below S0 (T99.setTop (mkF m 142 #[.val (.int p1), .val (.int p2), .val (.int p3), .val (.int p4), .val (.int p5), .val (.int p6), .val (.int kk), .val (.ref wk), .val (.int 2), .val (.int y0), .val (.int y1), .val (.int y2), .val (.ref b75), .unset] [(.int 0)])) := by
              intro t kt
              refine pre101 t ?_
              refine XS.ifYes X99.here hx rfl (pc0 := 118) (pc' := 141) rfl (hb hby at_118) rfl ((if0 _ _).trans (teq hc100).1) (by decide) (by decide) ?_
              refine XS.iconst X99.here hx rfl (hb hby at_141) ?_
              exact kt
            have pre103 : own_Go p e below S0 (T99.setTop (mkF m 142 #[.val (.int p1), .val (.int p2), .val (.int p3), .val (.int p4), .val (.int p5), .val (.int p6), .val (.int kk), .val (.ref wk), .val (.int 2), .val (.int y0), .val (.int y1), .val (.int y2), .val (.ref b75), .unset] [(.int (own_val2 kk y0 y1 p6))])) := by
              intro t kt
              refine pre102 t ?_
              exact castTop (by rw [own_val2, if_neg hc88, if_neg hc94, if_pos hc100]) kt
            exact ⟨T99, _, (Stand.mono X99 (by decide) (by decide)), N99, eq99, pre103⟩
          · have pre104 : own_Go p e below S0 (T99.setTop (mkF m 142 #[.val (.int p1), .val (.int p2), .val (.int p3), .val (.int p4), .val (.int p5), .val (.int p6), .val (.int kk), .val (.ref wk), .val (.int 2), .val (.int y0), .val (.int y1), .val (.int y2), .val (.ref b75), .unset] [(.int 1)])) := by
              intro t kt
              refine pre101 t ?_
              refine XS.ifNo X99.here hx rfl (hb hby at_118) rfl ((if0 _ _).trans (feq hc100).1) ?_
              refine XS.iload X99.here hx rfl (hb hby at_121) rfl ?_
              refine XS.iconst X99.here hx rfl (hb hby at_123) ?_
              refine XS.icmpYes X99.here hx rfl (pc0 := 124) (pc' := 137) rfl (hb hby at_124) rfl (tlt (by decide : (2 : Int32) < (3 : Int32))).1 (by decide) (by decide) ?_
              refine XS.iconst X99.here hx rfl (hb hby at_137) ?_
              refine XS.goto X99.here hx rfl (pc0 := 138) (pc' := 142) rfl (hb hby at_138) (by decide) (by decide) ?_
              show Steps p.tables e below (T99.setTop (mkF m 142 #[.val (.int p1), .val (.int p2), .val (.int p3), .val (.int p4), .val (.int p5), .val (.int p6), .val (.int kk), .val (.ref wk), .val (.int 2), .val (.int y0), .val (.int y1), .val (.int y2), .val (.ref b75), .unset] [(.int 1)])) _
              exact kt
            have pre105 : own_Go p e below S0 (T99.setTop (mkF m 142 #[.val (.int p1), .val (.int p2), .val (.int p3), .val (.int p4), .val (.int p5), .val (.int p6), .val (.int kk), .val (.ref wk), .val (.int 2), .val (.int y0), .val (.int y1), .val (.int y2), .val (.ref b75), .unset] [(.int (own_val2 kk y0 y1 p6))])) := by
              intro t kt
              refine pre104 t ?_
              exact castTop (by rw [own_val2, if_neg hc88, if_neg hc94, if_neg hc100]) kt
            exact ⟨T99, _, (Stand.mono X99 (by decide) (by decide)), N99, eq99, pre105⟩
    have pre106 : own_Go p e below S0 (Tj87.setTop (mkF m 150 #[.val (.int p1), .val (.int p2), .val (.int p3), .val (.int p4), .val (.int p5), .val (.int p6), .val (.int kk), .val (.ref wk), .val (.int 2), .val (.int y0), .val (.int y1), .val (.int y2), .val (.ref b75), .val (.int (own_val2 kk y0 y1 p6))] [(.int p6), (.ref b75), (.ref wk)])) := by
      intro t kt
      refine prej87 t ?_
      refine XS.istore Xj87.here hx rfl (hb hby at_142) rfl (l' := #[.val (.int p1), .val (.int p2), .val (.int p3), .val (.int p4), .val (.int p5), .val (.int p6), .val (.int kk), .val (.ref wk), .val (.int 2), .val (.int y0), .val (.int y1), .val (.int y2), .val (.ref b75), .val (.int (own_val2 kk y0 y1 p6))]) rfl ?_
      refine XS.aload Xj87.here hx rfl (hb hby at_144) rfl rfl ?_
      refine XS.aload Xj87.here hx rfl (hb hby at_146) rfl rfl ?_
      refine XS.iload Xj87.here hx rfl (hb hby at_148) rfl ?_
      exact kt
    have f107 : Old Z n0 T74.heap := (O0.keep K74 all0)
    have f109 : Exa Z T74.heap wk "com/example/backplane/backplane/IdSyntax" := (pe16.keep K74)
    obtain ⟨cq108, kq108, qa108, qb108, qc108⟩ := isOf hZ ej87 f109
    obtain ⟨_, _, ⟨T108, L108, k108, n108⟩, -, X108, ⟨Lc108, hQ108, l108, y108, z108⟩, st108⟩ := Xj87.virtualBack hx (y := own_m1) (z := own_m1) hown (mvT hZ (hw _ (own_w 42 rfl))) (mvT hZ (hw _ (own_w 43 rfl))) (notFace_of_selects (args := #[]) (mvT hZ (hw _ (own_w 45 rfl)))) (mvT hZ (hw _ (own_w 45 rfl))) (mvT hZ (hw _ (own_w 44 rfl))) (by decide) (backOf (W := 0) (rmval2 l Z a0 hw [] wk b75 p6 wC wF vb76 kb77 (nar .char y0) (nar .char y1) kk T74.heap n0 zs85 f107 qC qU qF g80 pj15) hZ (hw _ (own_w 46 rfl)) (hw _ (own_w 2 rfl)) (by decide) (by decide)) qa108 qc108 (g := (mkF m 150 #[.val (.int p1), .val (.int p2), .val (.int p3), .val (.int p4), .val (.int p5), .val (.int p6), .val (.int kk), .val (.ref wk), .val (.int 2), .val (.int y0), .val (.int y1), .val (.int y2), .val (.ref b75), .val (.int (own_val2 kk y0 y1 p6))] [(.int p6), (.ref b75), (.ref wk)])) rfl (by rw [hml]; rfl) (Steps.refl _) (argsL := [(.ref b75), (.int p6)]) (rest := []) (lenOf pd_22 rfl) rfl (by show 2 * 0 + _ ≤ _; exact Nat.le_of_eq rfl) (hb hby at_150) (fun _ _ => ⟨rfl, ej87, (by decide : 4 + 0 ≤ _), (by decide : 12 + 0 ≤ _)⟩)
    dsimp only [Pt.U, Pt.locs, Pt.cells, Pt.slots] at X108 l108 y108 z108 st108 hQ108
    subst l108 y108 z108
    obtain ⟨rfl, Nq108, eq108⟩ := hQ108
    have N108 := Fr.app Nj87 Nq108
    have pre110 : own_Go p e below S0 (T108.setTop (mkF m 163 #[.val (.int p1), .val (.int p2), .val (.int p3), .val (.int p4), .val (.int p5), .val (.int p6), .val (.int kk), .val (.ref wk), .val (.int 2), .val (.int y0), .val (.int y1), .val (.int y2), .val (.ref b75), .val (.int (own_val2 kk y0 y1 p6))] [(.int 1)])) := by
      intro t kt
      refine pre106 t ?_
      refine st108.trans ?_
      show Steps p.tables e below (T108.setTop (mkF m 153 #[.val (.int p1), .val (.int p2), .val (.int p3), .val (.int p4), .val (.int p5), .val (.int p6), .val (.int kk), .val (.ref wk), .val (.int 2), .val (.int y0), .val (.int y1), .val (.int y2), .val (.ref b75), .val (.int (own_val2 kk y0 y1 p6))] [(.int (own_val2 kk (nar .char y0) (nar .char y1) p6))])) _
      refine XS.iload X108.here hx rfl (hb hby at_153) rfl ?_
      refine XS.icmpNo X108.here hx rfl (hb hby at_155) rfl (teq (by rw [pj19, pj20])).2 ?_
      refine XS.iconst X108.here hx rfl (hb hby at_158) ?_
      refine XS.goto X108.here hx rfl (pc0 := 159) (pc' := 163) rfl (hb hby at_159) (by decide) (by decide) ?_
      exact kt
    obtain ⟨fs, hr, hrun, hended, hW, hsame⟩ := X108.leave (v := some (.int 1)) (fun h => by rw [Bd.returns] at h; cases h)
    refine ⟨_, _, fin _ (pre110 _ ?_), hrun, hended, _, _, rfl, ?_, own_wideMono (ReturnedEndW.of_narrow ⟨_, rfl⟩ hW hsame) (by decide) (by decide)⟩
    · exact retN X108 hx (t := .boolean) Bd.returns (by simp) (hb hby at_163) hr
    · show Q0 Z p1 p2 p3 p4 p5 p6 wC wF wPLAIN wWITH_COLON wBASE64_URL h0 n0 _ T108.heap _
      rw [eq108]
      exact ⟨rfl, N108⟩
  · have pre111 : own_Go p e below S0 (Tj18.setTop (mkF m 63 #[.val (.int p1), .val (.int p2), .val (.int p3), .val (.int p4), .val (.int p5), .val (.int p6), .val (.int kk), .val (.ref wk), .val (.int 3), .val (.int y0), .val (.int y1), .val (.int y2), .unset, .unset] [])) := by
      intro t kt
      refine prej18 t ?_
      rw [hn]
      exact kt
    have pre112 : own_Go p e below S0 (Tj18.setTop (mkF m 71 #[.val (.int p1), .val (.int p2), .val (.int p3), .val (.int p4), .val (.int p5), .val (.int p6), .val (.int kk), .val (.ref wk), .val (.int 3), .val (.int y0), .val (.int y1), .val (.int y2), .unset, .unset] [(.int y2), (.int y1), (.int y0), (.int 3)])) := by
      intro t kt
      refine pre111 t ?_
      refine XS.iload Xj18.here hx rfl (hb hby at_63) rfl ?_
      refine XS.iload Xj18.here hx rfl (hb hby at_65) rfl ?_
      refine XS.iload Xj18.here hx rfl (hb hby at_67) rfl ?_
      refine XS.iload Xj18.here hx rfl (hb hby at_69) rfl ?_
      exact kt
    obtain ⟨_, _, ⟨T113, L113, k113, n113⟩, -, X113, ⟨Lc113, hQ113, l113, y113, z113⟩, st113⟩ := Jvm.LawKit.callS Xj18 hx (y := own_m3) hown (mvT hZ (hw _ (own_w 5 rfl))) (mvT hZ (hw _ (own_w 6 rfl))) (mvT hZ (hw _ (own_w 7 rfl))) (mvT hZ (hw _ (own_w 8 rfl))) (by decide) (backOf (W := 0) (rmmake3 l Z a0 hw [] y0 y1 y2 wC h0 n0 Z0 O0 qC qU) hZ (hw _ (own_w 8 rfl)) (hw _ (own_w 7 rfl)) (by decide) (by decide)) (g := (mkF m 71 #[.val (.int p1), .val (.int p2), .val (.int p3), .val (.int p4), .val (.int p5), .val (.int p6), .val (.int kk), .val (.ref wk), .val (.int 3), .val (.int y0), .val (.int y1), .val (.int y2), .unset, .unset] [(.int y2), (.int y1), (.int y0), (.int 3)])) rfl (by rw [hml]; rfl) (argsL := [(.int 3), (.int y0), (.int y1), (.int y2)]) (rest := []) (lenOf pd_21 rfl) rfl (by show 2 * 0 + _ ≤ _; exact Nat.le_of_eq rfl) (hb hby at_71) (fun _ _ => ⟨rfl, ej18, (by decide : 0 + 4 ≤ _), (by decide : 0 + 16 ≤ _)⟩)
    dsimp only [Pt.U, Pt.locs, Pt.cells, Pt.slots] at X113 l113 y113 z113 st113 hQ113
    subst l113 y113 z113
    obtain ⟨b114, vb115, kb116, rfl, Nq113, K113, g117, g118, g119⟩ := hQ113
    have N113 := Fr.app Nj18 Nq113
    have ne120 : wk ≠ b114 := Nat.ne_of_lt (Nat.lt_of_lt_of_le pe16.lt g117)
    have ge121 : n0 ≤ b114 := Nat.le_trans Z0 g117
    have ne122 : wk ≠ vb115 := Nat.ne_of_lt (Nat.lt_of_lt_of_le pe16.lt g118)
    have ge123 : n0 ≤ vb115 := Nat.le_trans Z0 g118
    have zs124 : n0 ≤ T113.heap.size := Nat.le_trans Z0 K113.1
    have pre125 : own_Go p e below S0 (T113.setTop (mkF m 76 #[.val (.int p1), .val (.int p2), .val (.int p3), .val (.int p4), .val (.int p5), .val (.int p6), .val (.int kk), .val (.ref wk), .val (.int 3), .val (.int y0), .val (.int y1), .val (.int y2), .val (.ref b114), .unset] [])) := by
      intro t kt
      refine pre112 t ?_
      refine st113 _ ?_
      show Steps p.tables e below (T113.setTop (mkF m 74 #[.val (.int p1), .val (.int p2), .val (.int p3), .val (.int p4), .val (.int p5), .val (.int p6), .val (.int kk), .val (.ref wk), .val (.int 3), .val (.int y0), .val (.int y1), .val (.int y2), .unset, .unset] [(.ref b114)])) _
      refine XS.astore X113.here hx rfl (hb hby at_74) rfl rfl (l' := #[.val (.int p1), .val (.int p2), .val (.int p3), .val (.int p4), .val (.int p5), .val (.int p6), .val (.int kk), .val (.ref wk), .val (.int 3), .val (.int y0), .val (.int y1), .val (.int y2), .val (.ref b114), .unset]) rfl ?_
      exact kt
    obtain ⟨Tj126, lj126, Xj126, Nj126, ej126, prej126⟩ : ∃ (Tj126 : State) (lj126 : List Loc), Stand p l e room_1 s m #[(.int p1), (.int p2), (.int p3), (.int p4), (.int p5), (.int p6)] below meth c Tj126 lj126 4 16 ∧ Fr n0 lj126 ∧ Tj126.heap = T113.heap ∧ own_Go p e below S0 (Tj126.setTop (mkF m 142 #[.val (.int p1), .val (.int p2), .val (.int p3), .val (.int p4), .val (.int p5), .val (.int p6), .val (.int kk), .val (.ref wk), .val (.int 3), .val (.int y0), .val (.int y1), .val (.int y2), .val (.ref b114), .unset] [(.int (own_val3 kk y0 y1 y2 p6))])) := by
      have pre128 : own_Go p e below S0 (T113.setTop (mkF m 86 #[.val (.int p1), .val (.int p2), .val (.int p3), .val (.int p4), .val (.int p5), .val (.int p6), .val (.int kk), .val (.ref wk), .val (.int 3), .val (.int y0), .val (.int y1), .val (.int y2), .val (.ref b114), .unset] [(.int p6), (.int 3)])) := by
        intro t kt
        refine pre125 t ?_
        refine XS.iload X113.here hx rfl (hb hby at_76) rfl ?_
        refine XS.iconst X113.here hx rfl (hb hby at_78) ?_
        refine XS.icmpNo X113.here hx rfl (hb hby at_79) rfl (flt (by decide : ¬ ((3 : Int32) < (1 : Int32)))).1 ?_
        refine XS.iload X113.here hx rfl (hb hby at_82) rfl ?_
        refine XS.iload X113.here hx rfl (hb hby at_84) rfl ?_
        exact kt
      by_cases hc127 : p6 < (3 : Int32)
      · have pre129 : own_Go p e below S0 (T113.setTop (mkF m 142 #[.val (.int p1), .val (.int p2), .val (.int p3), .val (.int p4), .val (.int p5), .val (.int p6), .val (.int kk), .val (.ref wk), .val (.int 3), .val (.int y0), .val (.int y1), .val (.int y2), .val (.ref b114), .unset] [(.int 0)])) := by
          intro t kt
          refine pre128 t ?_
          refine XS.icmpYes X113.here hx rfl (pc0 := 86) (pc' := 141) rfl (hb hby at_86) rfl (tlt hc127).2.2.1 (by decide) (by decide) ?_
          refine XS.iconst X113.here hx rfl (hb hby at_141) ?_
          exact kt
        have pre130 : own_Go p e below S0 (T113.setTop (mkF m 142 #[.val (.int p1), .val (.int p2), .val (.int p3), .val (.int p4), .val (.int p5), .val (.int p6), .val (.int kk), .val (.ref wk), .val (.int 3), .val (.int y0), .val (.int y1), .val (.int y2), .val (.ref b114), .unset] [(.int (own_val3 kk y0 y1 y2 p6))])) := by
          intro t kt
          refine pre129 t ?_
          exact castTop (by rw [own_val3, if_pos hc127]) kt
        exact ⟨T113, _, (Stand.mono X113 (by decide) (by decide)), N113, rfl, pre130⟩
      · have pre131 : own_Go p e below S0 (T113.setTop (mkF m 99 #[.val (.int p1), .val (.int p2), .val (.int p3), .val (.int p4), .val (.int p5), .val (.int p6), .val (.int kk), .val (.ref wk), .val (.int 3), .val (.int y0), .val (.int y1), .val (.int y2), .val (.ref b114), .unset] [(.int y0), (.int kk)])) := by
          intro t kt
          refine pre128 t ?_
          refine XS.icmpNo X113.here hx rfl (hb hby at_86) rfl (flt hc127).2.2.1 ?_
          refine XS.iload X113.here hx rfl (hb hby at_89) rfl ?_
          refine XS.iconst X113.here hx rfl (hb hby at_91) ?_
          refine XS.icmpNo X113.here hx rfl (hb hby at_92) rfl (flt (by decide : ¬ ((3 : Int32) < (1 : Int32)))).1 ?_
          refine XS.iload X113.here hx rfl (hb hby at_95) rfl ?_
          refine XS.iload X113.here hx rfl (hb hby at_97) rfl ?_
          show Steps p.tables e below (T113.setTop (mkF m 99 #[.val (.int p1), .val (.int p2), .val (.int p3), .val (.int p4), .val (.int p5), .val (.int p6), .val (.int kk), .val (.ref wk), .val (.int 3), .val (.int y0), .val (.int y1), .val (.int y2), .val (.ref b114), .unset] [(.int y0), (.int kk)])) _
          exact kt
        obtain ⟨_, _, ⟨T132, L132, k132, n132⟩, -, X132, ⟨Lc132, hQ132, l132, y132, z132⟩, st132⟩ := Jvm.LawKit.callS X113 hx (y := own_m2) hown (mvT hZ (hw _ (own_w 39 rfl))) (mvT hZ (hw _ (own_w 40 rfl))) (mvT hZ (hw _ (own_w 7 rfl))) (mvT hZ (hw _ (own_w 41 rfl))) (by decide) (backOf (W := 0) (rm8 l Z a0 hw [] kk y0 T113.heap n0 zs124 ) hZ (hw _ (own_w 41 rfl)) (hw _ (own_w 7 rfl)) (by decide) (by decide)) (g := (mkF m 99 #[.val (.int p1), .val (.int p2), .val (.int p3), .val (.int p4), .val (.int p5), .val (.int p6), .val (.int kk), .val (.ref wk), .val (.int 3), .val (.int y0), .val (.int y1), .val (.int y2), .val (.ref b114), .unset] [(.int y0), (.int kk)])) rfl (by rw [hml]; rfl) (argsL := [(.int kk), (.int y0)]) (rest := []) (lenOf pd_23 rfl) rfl (by show 2 * 0 + _ ≤ _; exact Nat.le_of_eq rfl) (hb hby at_99) (fun _ _ => ⟨rfl, rfl, (by decide : 4 + 0 ≤ _), (by decide : 16 + 0 ≤ _)⟩)
        dsimp only [Pt.U, Pt.locs, Pt.cells, Pt.slots] at X132 l132 y132 z132 st132 hQ132
        subst l132 y132 z132
        obtain ⟨rfl, Nq132, eq132⟩ := hQ132
        have N132 := Fr.app N113 Nq132
        have pre134 : own_Go p e below S0 (T132.setTop (mkF m 102 #[.val (.int p1), .val (.int p2), .val (.int p3), .val (.int p4), .val (.int p5), .val (.int p6), .val (.int kk), .val (.ref wk), .val (.int 3), .val (.int y0), .val (.int y1), .val (.int y2), .val (.ref b114), .unset] [(.int (own_al kk y0))])) := by
          intro t kt
          refine pre131 t ?_
          refine st132 _ ?_
          show Steps p.tables e below (T132.setTop (mkF m 102 #[.val (.int p1), .val (.int p2), .val (.int p3), .val (.int p4), .val (.int p5), .val (.int p6), .val (.int kk), .val (.ref wk), .val (.int 3), .val (.int y0), .val (.int y1), .val (.int y2), .val (.ref b114), .unset] [(.int (own_al kk y0))])) _
          exact kt
        by_cases hc133 : (own_al kk y0) = (0 : Int32)
        · have pre135 : own_Go p e below S0 (T132.setTop (mkF m 142 #[.val (.int p1), .val (.int p2), .val (.int p3), .val (.int p4), .val (.int p5), .val (.int p6), .val (.int kk), .val (.ref wk), .val (.int 3), .val (.int y0), .val (.int y1), .val (.int y2), .val (.ref b114), .unset] [(.int 0)])) := by
            intro t kt
            refine pre134 t ?_
            refine XS.ifYes X132.here hx rfl (pc0 := 102) (pc' := 141) rfl (hb hby at_102) rfl ((if0 _ _).trans (teq hc133).1) (by decide) (by decide) ?_
            refine XS.iconst X132.here hx rfl (hb hby at_141) ?_
            exact kt
          have pre136 : own_Go p e below S0 (T132.setTop (mkF m 142 #[.val (.int p1), .val (.int p2), .val (.int p3), .val (.int p4), .val (.int p5), .val (.int p6), .val (.int kk), .val (.ref wk), .val (.int 3), .val (.int y0), .val (.int y1), .val (.int y2), .val (.ref b114), .unset] [(.int (own_val3 kk y0 y1 y2 p6))])) := by
            intro t kt
            refine pre135 t ?_
            exact castTop (by rw [own_val3, if_neg hc127, if_pos hc133]) kt
          exact ⟨T132, _, (Stand.mono X132 (by decide) (by decide)), N132, eq132, pre136⟩
        · have pre137 : own_Go p e below S0 (T132.setTop (mkF m 115 #[.val (.int p1), .val (.int p2), .val (.int p3), .val (.int p4), .val (.int p5), .val (.int p6), .val (.int kk), .val (.ref wk), .val (.int 3), .val (.int y0), .val (.int y1), .val (.int y2), .val (.ref b114), .unset] [(.int y1), (.int kk)])) := by
            intro t kt
            refine pre134 t ?_
            refine XS.ifNo X132.here hx rfl (hb hby at_102) rfl ((if0 _ _).trans (feq hc133).1) ?_
            refine XS.iload X132.here hx rfl (hb hby at_105) rfl ?_
            refine XS.iconst X132.here hx rfl (hb hby at_107) ?_
            refine XS.icmpNo X132.here hx rfl (hb hby at_108) rfl (flt (by decide : ¬ ((3 : Int32) < (2 : Int32)))).1 ?_
            refine XS.iload X132.here hx rfl (hb hby at_111) rfl ?_
            refine XS.iload X132.here hx rfl (hb hby at_113) rfl ?_
            show Steps p.tables e below (T132.setTop (mkF m 115 #[.val (.int p1), .val (.int p2), .val (.int p3), .val (.int p4), .val (.int p5), .val (.int p6), .val (.int kk), .val (.ref wk), .val (.int 3), .val (.int y0), .val (.int y1), .val (.int y2), .val (.ref b114), .unset] [(.int y1), (.int kk)])) _
            exact kt
          obtain ⟨_, _, ⟨T138, L138, k138, n138⟩, -, X138, ⟨Lc138, hQ138, l138, y138, z138⟩, st138⟩ := Jvm.LawKit.callS X132 hx (y := own_m2) hown (mvT hZ (hw _ (own_w 39 rfl))) (mvT hZ (hw _ (own_w 40 rfl))) (mvT hZ (hw _ (own_w 7 rfl))) (mvT hZ (hw _ (own_w 41 rfl))) (by decide) (backOf (W := 0) (rm8 l Z a0 hw [] kk y1 T113.heap n0 zs124 ) hZ (hw _ (own_w 41 rfl)) (hw _ (own_w 7 rfl)) (by decide) (by decide)) (g := (mkF m 115 #[.val (.int p1), .val (.int p2), .val (.int p3), .val (.int p4), .val (.int p5), .val (.int p6), .val (.int kk), .val (.ref wk), .val (.int 3), .val (.int y0), .val (.int y1), .val (.int y2), .val (.ref b114), .unset] [(.int y1), (.int kk)])) rfl (by rw [hml]; rfl) (argsL := [(.int kk), (.int y1)]) (rest := []) (lenOf pd_23 rfl) rfl (by show 2 * 0 + _ ≤ _; exact Nat.le_of_eq rfl) (hb hby at_115) (fun _ _ => ⟨rfl, eq132, (by decide : 4 + 0 ≤ _), (by decide : 16 + 0 ≤ _)⟩)
          dsimp only [Pt.U, Pt.locs, Pt.cells, Pt.slots] at X138 l138 y138 z138 st138 hQ138
          subst l138 y138 z138
          obtain ⟨rfl, Nq138, eq138⟩ := hQ138
          have N138 := Fr.app N132 Nq138
          have pre140 : own_Go p e below S0 (T138.setTop (mkF m 118 #[.val (.int p1), .val (.int p2), .val (.int p3), .val (.int p4), .val (.int p5), .val (.int p6), .val (.int kk), .val (.ref wk), .val (.int 3), .val (.int y0), .val (.int y1), .val (.int y2), .val (.ref b114), .unset] [(.int (own_al kk y1))])) := by
            intro t kt
            refine pre137 t ?_
            refine st138 _ ?_
            show Steps p.tables e below (T138.setTop (mkF m 118 #[.val (.int p1), .val (.int p2), .val (.int p3), .val (.int p4), .val (.int p5), .val (.int p6), .val (.int kk), .val (.ref wk), .val (.int 3), .val (.int y0), .val (.int y1), .val (.int y2), .val (.ref b114), .unset] [(.int (own_al kk y1))])) _
            exact kt
          by_cases hc139 : (own_al kk y1) = (0 : Int32)
          · have pre141 : own_Go p e below S0 (T138.setTop (mkF m 142 #[.val (.int p1), .val (.int p2), .val (.int p3), .val (.int p4), .val (.int p5), .val (.int p6), .val (.int kk), .val (.ref wk), .val (.int 3), .val (.int y0), .val (.int y1), .val (.int y2), .val (.ref b114), .unset] [(.int 0)])) := by
              intro t kt
              refine pre140 t ?_
              refine XS.ifYes X138.here hx rfl (pc0 := 118) (pc' := 141) rfl (hb hby at_118) rfl ((if0 _ _).trans (teq hc139).1) (by decide) (by decide) ?_
              refine XS.iconst X138.here hx rfl (hb hby at_141) ?_
              exact kt
            have pre142 : own_Go p e below S0 (T138.setTop (mkF m 142 #[.val (.int p1), .val (.int p2), .val (.int p3), .val (.int p4), .val (.int p5), .val (.int p6), .val (.int kk), .val (.ref wk), .val (.int 3), .val (.int y0), .val (.int y1), .val (.int y2), .val (.ref b114), .unset] [(.int (own_val3 kk y0 y1 y2 p6))])) := by
              intro t kt
              refine pre141 t ?_
              exact castTop (by rw [own_val3, if_neg hc127, if_neg hc133, if_pos hc139]) kt
            exact ⟨T138, _, (Stand.mono X138 (by decide) (by decide)), N138, eq138, pre142⟩
          · have pre143 : own_Go p e below S0 (T138.setTop (mkF m 131 #[.val (.int p1), .val (.int p2), .val (.int p3), .val (.int p4), .val (.int p5), .val (.int p6), .val (.int kk), .val (.ref wk), .val (.int 3), .val (.int y0), .val (.int y1), .val (.int y2), .val (.ref b114), .unset] [(.int y2), (.int kk)])) := by
              intro t kt
              refine pre140 t ?_
              refine XS.ifNo X138.here hx rfl (hb hby at_118) rfl ((if0 _ _).trans (feq hc139).1) ?_
              refine XS.iload X138.here hx rfl (hb hby at_121) rfl ?_
              refine XS.iconst X138.here hx rfl (hb hby at_123) ?_
              refine XS.icmpNo X138.here hx rfl (hb hby at_124) rfl (flt (by decide : ¬ ((3 : Int32) < (3 : Int32)))).1 ?_
              refine XS.iload X138.here hx rfl (hb hby at_127) rfl ?_
              refine XS.iload X138.here hx rfl (hb hby at_129) rfl ?_
              show Steps p.tables e below (T138.setTop (mkF m 131 #[.val (.int p1), .val (.int p2), .val (.int p3), .val (.int p4), .val (.int p5), .val (.int p6), .val (.int kk), .val (.ref wk), .val (.int 3), .val (.int y0), .val (.int y1), .val (.int y2), .val (.ref b114), .unset] [(.int y2), (.int kk)])) _
              exact kt
            obtain ⟨_, _, ⟨T144, L144, k144, n144⟩, -, X144, ⟨Lc144, hQ144, l144, y144, z144⟩, st144⟩ := Jvm.LawKit.callS X138 hx (y := own_m2) hown (mvT hZ (hw _ (own_w 39 rfl))) (mvT hZ (hw _ (own_w 40 rfl))) (mvT hZ (hw _ (own_w 7 rfl))) (mvT hZ (hw _ (own_w 41 rfl))) (by decide) (backOf (W := 0) (rm8 l Z a0 hw [] kk y2 T113.heap n0 zs124 ) hZ (hw _ (own_w 41 rfl)) (hw _ (own_w 7 rfl)) (by decide) (by decide)) (g := (mkF m 131 #[.val (.int p1), .val (.int p2), .val (.int p3), .val (.int p4), .val (.int p5), .val (.int p6), .val (.int kk), .val (.ref wk), .val (.int 3), .val (.int y0), .val (.int y1), .val (.int y2), .val (.ref b114), .unset] [(.int y2), (.int kk)])) rfl (by rw [hml]; rfl) (argsL := [(.int kk), (.int y2)]) (rest := []) (lenOf pd_23 rfl) rfl (by show 2 * 0 + _ ≤ _; exact Nat.le_of_eq rfl) (hb hby at_131) (fun _ _ => ⟨rfl, eq138, (by decide : 4 + 0 ≤ _), (by decide : 16 + 0 ≤ _)⟩)
            dsimp only [Pt.U, Pt.locs, Pt.cells, Pt.slots] at X144 l144 y144 z144 st144 hQ144
            subst l144 y144 z144
            obtain ⟨rfl, Nq144, eq144⟩ := hQ144
            have N144 := Fr.app N138 Nq144
            have pre146 : own_Go p e below S0 (T144.setTop (mkF m 134 #[.val (.int p1), .val (.int p2), .val (.int p3), .val (.int p4), .val (.int p5), .val (.int p6), .val (.int kk), .val (.ref wk), .val (.int 3), .val (.int y0), .val (.int y1), .val (.int y2), .val (.ref b114), .unset] [(.int (own_al kk y2))])) := by
              intro t kt
              refine pre143 t ?_
              refine st144 _ ?_
              show Steps p.tables e below (T144.setTop (mkF m 134 #[.val (.int p1), .val (.int p2), .val (.int p3), .val (.int p4), .val (.int p5), .val (.int p6), .val (.int kk), .val (.ref wk), .val (.int 3), .val (.int y0), .val (.int y1), .val (.int y2), .val (.ref b114), .unset] [(.int (own_al kk y2))])) _
              exact kt
            by_cases hc145 : (own_al kk y2) = (0 : Int32)
            · have pre147 : own_Go p e below S0 (T144.setTop (mkF m 142 #[.val (.int p1), .val (.int p2), .val (.int p3), .val (.int p4), .val (.int p5), .val (.int p6), .val (.int kk), .val (.ref wk), .val (.int 3), .val (.int y0), .val (.int y1), .val (.int y2), .val (.ref b114), .unset] [(.int 0)])) := by
                intro t kt
                refine pre146 t ?_
                refine XS.ifYes X144.here hx rfl (pc0 := 134) (pc' := 141) rfl (hb hby at_134) rfl ((if0 _ _).trans (teq hc145).1) (by decide) (by decide) ?_
                refine XS.iconst X144.here hx rfl (hb hby at_141) ?_
                exact kt
              have pre148 : own_Go p e below S0 (T144.setTop (mkF m 142 #[.val (.int p1), .val (.int p2), .val (.int p3), .val (.int p4), .val (.int p5), .val (.int p6), .val (.int kk), .val (.ref wk), .val (.int 3), .val (.int y0), .val (.int y1), .val (.int y2), .val (.ref b114), .unset] [(.int (own_val3 kk y0 y1 y2 p6))])) := by
                intro t kt
                refine pre147 t ?_
                exact castTop (by rw [own_val3, if_neg hc127, if_neg hc133, if_neg hc139, if_pos hc145]) kt
              exact ⟨T144, _, (Stand.mono X144 (by decide) (by decide)), N144, eq144, pre148⟩
            · have pre149 : own_Go p e below S0 (T144.setTop (mkF m 142 #[.val (.int p1), .val (.int p2), .val (.int p3), .val (.int p4), .val (.int p5), .val (.int p6), .val (.int kk), .val (.ref wk), .val (.int 3), .val (.int y0), .val (.int y1), .val (.int y2), .val (.ref b114), .unset] [(.int 1)])) := by
                intro t kt
                refine pre146 t ?_
                refine XS.ifNo X144.here hx rfl (hb hby at_134) rfl ((if0 _ _).trans (feq hc145).1) ?_
                refine XS.iconst X144.here hx rfl (hb hby at_137) ?_
                refine XS.goto X144.here hx rfl (pc0 := 138) (pc' := 142) rfl (hb hby at_138) (by decide) (by decide) ?_
                exact kt
              have pre150 : own_Go p e below S0 (T144.setTop (mkF m 142 #[.val (.int p1), .val (.int p2), .val (.int p3), .val (.int p4), .val (.int p5), .val (.int p6), .val (.int kk), .val (.ref wk), .val (.int 3), .val (.int y0), .val (.int y1), .val (.int y2), .val (.ref b114), .unset] [(.int (own_val3 kk y0 y1 y2 p6))])) := by
                intro t kt
                refine pre149 t ?_
                exact castTop (by rw [own_val3, if_neg hc127, if_neg hc133, if_neg hc139, if_neg hc145]) kt
              exact ⟨T144, _, (Stand.mono X144 (by decide) (by decide)), N144, eq144, pre150⟩
    have pre151 : own_Go p e below S0 (Tj126.setTop (mkF m 150 #[.val (.int p1), .val (.int p2), .val (.int p3), .val (.int p4), .val (.int p5), .val (.int p6), .val (.int kk), .val (.ref wk), .val (.int 3), .val (.int y0), .val (.int y1), .val (.int y2), .val (.ref b114), .val (.int (own_val3 kk y0 y1 y2 p6))] [(.int p6), (.ref b114), (.ref wk)])) := by
      intro t kt
      refine prej126 t ?_
      refine XS.istore Xj126.here hx rfl (hb hby at_142) rfl (l' := #[.val (.int p1), .val (.int p2), .val (.int p3), .val (.int p4), .val (.int p5), .val (.int p6), .val (.int kk), .val (.ref wk), .val (.int 3), .val (.int y0), .val (.int y1), .val (.int y2), .val (.ref b114), .val (.int (own_val3 kk y0 y1 y2 p6))]) rfl ?_
      refine XS.aload Xj126.here hx rfl (hb hby at_144) rfl rfl ?_
      refine XS.aload Xj126.here hx rfl (hb hby at_146) rfl rfl ?_
      refine XS.iload Xj126.here hx rfl (hb hby at_148) rfl ?_
      exact kt
    have f152 : Old Z n0 T113.heap := (O0.keep K113 all0)
    have f154 : Exa Z T113.heap wk "com/example/backplane/backplane/IdSyntax" := (pe16.keep K113)
    obtain ⟨cq153, kq153, qa153, qb153, qc153⟩ := isOf hZ ej126 f154
    obtain ⟨_, _, ⟨T153, L153, k153, n153⟩, -, X153, ⟨Lc153, hQ153, l153, y153, z153⟩, st153⟩ := Xj126.virtualBack hx (y := own_m1) (z := own_m1) hown (mvT hZ (hw _ (own_w 42 rfl))) (mvT hZ (hw _ (own_w 43 rfl))) (notFace_of_selects (args := #[]) (mvT hZ (hw _ (own_w 45 rfl)))) (mvT hZ (hw _ (own_w 45 rfl))) (mvT hZ (hw _ (own_w 44 rfl))) (by decide) (backOf (W := 0) (rmval3 l Z a0 hw [] wk b114 p6 wC wF vb115 kb116 (nar .char y0) (nar .char y1) (nar .char y2) kk T113.heap n0 zs124 f152 qC qU qF g119 pj15) hZ (hw _ (own_w 46 rfl)) (hw _ (own_w 2 rfl)) (by decide) (by decide)) qa153 qc153 (g := (mkF m 150 #[.val (.int p1), .val (.int p2), .val (.int p3), .val (.int p4), .val (.int p5), .val (.int p6), .val (.int kk), .val (.ref wk), .val (.int 3), .val (.int y0), .val (.int y1), .val (.int y2), .val (.ref b114), .val (.int (own_val3 kk y0 y1 y2 p6))] [(.int p6), (.ref b114), (.ref wk)])) rfl (by rw [hml]; rfl) (Steps.refl _) (argsL := [(.ref b114), (.int p6)]) (rest := []) (lenOf pd_22 rfl) rfl (by show 2 * 0 + _ ≤ _; exact Nat.le_of_eq rfl) (hb hby at_150) (fun _ _ => ⟨rfl, ej126, (by decide : 4 + 0 ≤ _), (by decide : 16 + 0 ≤ _)⟩)
    dsimp only [Pt.U, Pt.locs, Pt.cells, Pt.slots] at X153 l153 y153 z153 st153 hQ153
    subst l153 y153 z153
    obtain ⟨rfl, Nq153, eq153⟩ := hQ153
    have N153 := Fr.app Nj126 Nq153
    have pre155 : own_Go p e below S0 (T153.setTop (mkF m 163 #[.val (.int p1), .val (.int p2), .val (.int p3), .val (.int p4), .val (.int p5), .val (.int p6), .val (.int kk), .val (.ref wk), .val (.int 3), .val (.int y0), .val (.int y1), .val (.int y2), .val (.ref b114), .val (.int (own_val3 kk y0 y1 y2 p6))] [(.int 1)])) := by
      intro t kt
      refine pre151 t ?_
      refine st153.trans ?_
      show Steps p.tables e below (T153.setTop (mkF m 153 #[.val (.int p1), .val (.int p2), .val (.int p3), .val (.int p4), .val (.int p5), .val (.int p6), .val (.int kk), .val (.ref wk), .val (.int 3), .val (.int y0), .val (.int y1), .val (.int y2), .val (.ref b114), .val (.int (own_val3 kk y0 y1 y2 p6))] [(.int (own_val3 kk (nar .char y0) (nar .char y1) (nar .char y2) p6))])) _
      refine XS.iload X153.here hx rfl (hb hby at_153) rfl ?_
      refine XS.icmpNo X153.here hx rfl (hb hby at_155) rfl (teq (by rw [pj19, pj20, pj21])).2 ?_
      refine XS.iconst X153.here hx rfl (hb hby at_158) ?_
      refine XS.goto X153.here hx rfl (pc0 := 159) (pc' := 163) rfl (hb hby at_159) (by decide) (by decide) ?_
      exact kt
    obtain ⟨fs, hr, hrun, hended, hW, hsame⟩ := X153.leave (v := some (.int 1)) (fun h => by rw [Bd.returns] at h; cases h)
    refine ⟨_, _, fin _ (pre155 _ ?_), hrun, hended, _, _, rfl, ?_, own_wideMono (ReturnedEndW.of_narrow ⟨_, rfl⟩ hW hsame) (by decide) (by decide)⟩
    · exact retN X153 hx (t := .boolean) Bd.returns (by simp) (hb hby at_163) hr
    · show Q0 Z p1 p2 p3 p4 p5 p6 wC wF wPLAIN wWITH_COLON wBASE64_URL h0 n0 _ T153.heap _
      rw [eq153]
      exact ⟨rfl, N153⟩

set_option maxRecDepth 65536 in
set_option maxHeartbeats 40000000 in
theorem comes_1 {Post : Tables → Env → Array Value → State → Outcome → State → Prop} (hpost : ∀ tb e args s v u, (limb_1_1.after args s (.returned v) u = true ∧ limb_1_2.after args s (.returned v) u = true ∧ True) → ReturnedEndW s (.returned v) u (Jvm.fieldLocs frame_1_writes args s ++ Jvm.arrayLocs frame_1_arrays args s ++ Jvm.staticLocs frame_1_statics s) 24 1152 → Post tb e args s (.returned v) u) :
    ArmFor flags0 classFile x code maxLocals ret World_1 tables_1 room_1 Calls_1 rest_1 Pre_1 Post := by
  intro l hfl _ _ p e ha hc hk s m args below hf hA hF happ hP
  obtain ⟨hcalls, hrest, hpre⟩ := hP
  obtain ⟨-, -, -, hnamed, -, -, -, hat⟩ := (Spec.applies_iff hf).mp happ
  obtain ⟨hg, hn⟩ := and_e (Cond.before_iff.mp (show (Jvm.Cond.and given_1 narrow_1).before args s = true from hpre))
  obtain ⟨hcount, hg0⟩ := and_e hg
  obtain ⟨ga0, hg1⟩ := and_e hg0
  obtain ⟨ga1, hg2⟩ := and_e hg1
  obtain ⟨ga2, hg3⟩ := and_e hg2
  obtain ⟨ga3, hg4⟩ := and_e hg3
  obtain ⟨ga4, hg5⟩ := and_e hg4
  have ga5 := hg5
  obtain ⟨w0, w1, w2, w3, w4, w5, rfl⟩ : ∃ w0 w1 w2 w3 w4 w5 : Value, args = #[w0, w1, w2, w3, w4, w5] := by
    have hs : args.size = 6 := by simpa [Cond.value, given_1] using hcount
    obtain ⟨L⟩ := args
    match L, hs with
    | [w0, w1, w2, w3, w4, w5], _ => exact ⟨w0, w1, w2, w3, w4, w5, rfl⟩
  have hw := fun d (hd : d ∈ tables_1) => atoms_spec (ws := Jvm.Cond.code x code maxLocals ret :: tables_1) hat d (List.mem_cons_of_mem _ hd)
  have hfit : Fit s := fun {y c} hc i hi => by
    obtain ⟨ha, rfl⟩ := Array.getElem?_eq_some_iff.mp hc
    have q := List.all_eq_true.mp ((Array.all_eq_true_iff_forall_mem.mp hF) _ (Array.getElem_mem ha)) i (List.mem_range.mpr hi)
    simpa [Array.getElem?_eq_getElem hi] using q
  obtain ⟨hsets, hown0⟩ := atoms_of _ (rest_1_c_eq ▸ (show rest_1_c.before _ s = true from hrest))
  obtain ⟨i0, ei0⟩ := is_v ga0
  obtain rfl : w0 = (.int i0) := Option.some.inj ei0
  obtain ⟨i1, ei1⟩ := is_v ga1
  obtain rfl : w1 = (.int i1) := Option.some.inj ei1
  obtain ⟨i2, ei2⟩ := is_v ga2
  obtain rfl : w2 = (.int i2) := Option.some.inj ei2
  obtain ⟨i3, ei3⟩ := is_v ga3
  obtain rfl : w3 = (.int i3) := Option.some.inj ei3
  obtain ⟨i4, ei4⟩ := is_v ga4
  obtain rfl : w4 = (.int i4) := Option.some.inj ei4
  obtain ⟨i5, ei5⟩ := is_v ga5
  obtain rfl : w5 = (.int i5) := Option.some.inj ei5
  obtain ⟨nr1, nr2⟩ := and_e hn
  obtain ⟨nr3, nr4⟩ := and_e nr2
  obtain ⟨nr5, nr6⟩ := and_e nr4
  obtain ⟨nr7, nr8⟩ := and_e nr6
  obtain ⟨nr9, nr10⟩ := and_e nr8
  obtain ⟨nr11, nr12⟩ := and_e nr10
  obtain ⟨nr13, nr14⟩ := and_e nr12
  obtain ⟨nr15, nr16⟩ := and_e nr14
  obtain ⟨nr17, nr18⟩ := and_e nr16
  obtain ⟨nr19, nr20⟩ := and_e nr18
  obtain ⟨nr21, nr22⟩ := and_e nr20
  obtain ⟨nr23, nr24⟩ := and_e nr22
  obtain ⟨nr25, nr26⟩ := and_e nr24
  obtain ⟨nr27, nr28⟩ := and_e nr26
  obtain ⟨nr29, nr30⟩ := and_e nr28
  obtain ⟨nr31, nr32⟩ := and_e nr30
  obtain ⟨nr33, nr34⟩ := and_e nr32
  obtain ⟨nr35, nr36⟩ := and_e nr34
  obtain ⟨nr37, nr38⟩ := and_e nr36
  obtain ⟨nr39, nr40⟩ := and_e nr38
  obtain ⟨nr41, nr42⟩ := and_e nr40
  obtain ⟨nr43, nr44⟩ := and_e nr42
  obtain ⟨nr45, nr46⟩ := and_e nr44
  obtain ⟨w47, ev48⟩ := exa_v nr1
  have S_PLAIN := Sta.start ev48 (Or.inr ⟨(hw _ (own_w 2 rfl)), (hw _ (own_w 3 rfl))⟩)
  have E_49 := Exa.start ev48 nr1
  obtain ⟨w50, ev51⟩ := exa_v nr3
  have F_punctuation53 := Fld.start ((fld_at ev48).symm.trans ev51)
  have E_52 := Exa.start ev51 nr3
  obtain ⟨w54, ev55⟩ := exa_v nr17
  have S_WITH_COLON := Sta.start ev55 (Or.inr ⟨(hw _ (own_w 2 rfl)), (hw _ (own_w 118 rfl))⟩)
  have E_56 := Exa.start ev55 nr17
  obtain ⟨w57, ev58⟩ := exa_v nr19
  have F_punctuation60 := Fld.start ((fld_at ev55).symm.trans ev58)
  have E_59 := Exa.start ev58 nr19
  obtain ⟨w61, ev62⟩ := exa_v nr35
  have S_BASE64_URL := Sta.start ev62 (Or.inr ⟨(hw _ (own_w 2 rfl)), (hw _ (own_w 152 rfl))⟩)
  have E_63 := Exa.start ev62 nr35
  obtain ⟨w64, ev65⟩ := exa_v nr37
  have F_punctuation67 := Fld.start ((fld_at ev62).symm.trans ev65)
  have E_66 := Exa.start ev65 nr37
  obtain ⟨w68, ev69⟩ := arr_v nr7
  have F_value70 := Fld.start ((fld_at ev51).symm.trans ev69)
  obtain ⟨w71, ev72⟩ := arr_v nr23
  have F_value73 := Fld.start ((fld_at ev58).symm.trans ev72)
  obtain ⟨w74, ev75⟩ := arr_v nr41
  have F_value76 := Fld.start ((fld_at ev65).symm.trans ev75)
  obtain ⟨kV78, V_77⟩ := own_arvStart (dv := .int 0) (vs := [(.int 46), (.int 95), (.int 45)]) (z := 3) hfit ev69 nr7 (own_eqI nr9) (by decide) (by decide) (fun cl hc => ⟨(elem_in (own_eqI nr11) ev69 (Term.int_eval (0)) hc).2, (elem_in (own_eqI nr13) ev69 (Term.int_eval (1)) hc).2, (elem_in (own_eqI nr15) ev69 (Term.int_eval (2)) hc).2, trivial⟩)
  obtain ⟨kV80, V_79⟩ := own_arvStart (dv := .int 0) (vs := [(.int 46), (.int 95), (.int 45), (.int 58)]) (z := 4) hfit ev72 nr23 (own_eqI nr25) (by decide) (by decide) (fun cl hc => ⟨(elem_in (own_eqI nr27) ev72 (Term.int_eval (0)) hc).2, (elem_in (own_eqI nr29) ev72 (Term.int_eval (1)) hc).2, (elem_in (own_eqI nr31) ev72 (Term.int_eval (2)) hc).2, (elem_in (own_eqI nr33) ev72 (Term.int_eval (3)) hc).2, trivial⟩)
  obtain ⟨kV82, V_81⟩ := own_arvStart (dv := .int 0) (vs := [(.int 45), (.int 95)]) (z := 2) hfit ev75 nr41 (own_eqI nr43) (by decide) (by decide) (fun cl hc => ⟨(elem_in (own_eqI nr45) ev75 (Term.int_eval (0)) hc).2, (elem_in (own_eqI nr46) ev75 (Term.int_eval (1)) hc).2, trivial⟩)
  have F_coder83 := Fld.start ((fld_at ev51).symm.trans (own_eqI nr5))
  have F_coder84 := Fld.start ((fld_at ev58).symm.trans (own_eqI nr21))
  have F_coder85 := Fld.start ((fld_at ev65).symm.trans (own_eqI nr39))
  obtain ⟨wC, evC⟩ := is_v (Cond.before_iff.mp (hsets _ (List.mem_of_getElem? (i := 1) rfl)))
  have SC := Sta.start evC (Or.inl (hsets _ (List.mem_of_getElem? (i := 0) rfl)))
  have hC : ¬ wC = (0 : Int32) := fun q => by
    have z := not_v (Cond.before_iff.mp (hsets _ (List.mem_of_getElem? (i := 2) rfl)))
    exact absurd ((eq_i evC (Term.int_eval 0) (by rw [q])).symm.trans z) (by decide)
  have SA := Sta.start (own_eqI (Cond.before_iff.mp (hsets _ (List.mem_of_getElem? (i := 12) rfl)))) (Or.inl (hsets _ (List.mem_of_getElem? (i := 11) rfl)))
  have SH := Sta.start (own_eqI (Cond.before_iff.mp (hsets _ (List.mem_of_getElem? (i := 15) rfl)))) (Or.inl (hsets _ (List.mem_of_getElem? (i := 14) rfl)))
  have SL := Sta.start (own_eqI (Cond.before_iff.mp (hsets _ (List.mem_of_getElem? (i := 18) rfl)))) (Or.inl (hsets _ (List.mem_of_getElem? (i := 17) rfl)))
  obtain ⟨wF, evF, hF⟩ := isR_v (Cond.before_iff.mp (hsets _ (List.mem_of_getElem? (i := 8) rfl)))
  have SF := Sta.start evF (Or.inl (hsets _ (List.mem_of_getElem? (i := 7) rfl)))
  have hCH0 : CHv s own_EL s.vm s.heap := CHv.start (own_EW _ s hw) (fun q hq => hcalls.1 q (own_ELsub q hq)) (hsets _ (List.mem_of_getElem? (i := 2) rfl)) (hw _ (own_w 28 rfl)) (hw _ (own_w 10 rfl))
  obtain ⟨n, o, h1, h2, h3, _, L, rfl, ⟨rfl, N⟩, hq⟩ := rm0 l s _ hw tables_1 i0 i1 i2 i3 i4 i5 wC wF w47 w54 w61 s.heap s.heap.size (Nat.le_refl _) (Old.start s) ⟨SC, hC⟩ ⟨SA, SH, SL⟩ ⟨SF, hF⟩ S_PLAIN S_WITH_COLON S_BASE64_URL ⟨w50, w68, kV78, E_49, F_punctuation53, E_52, F_coder83, F_value70, Or.inl ⟨rfl, V_77⟩⟩ ⟨w57, w71, kV80, E_56, F_punctuation60, E_59, F_coder84, F_value73, Or.inr (Or.inl ⟨rfl, V_79⟩)⟩ ⟨w64, w74, kV82, E_63, F_punctuation67, E_66, F_coder85, F_value76, Or.inr (Or.inr ⟨rfl, V_81⟩)⟩ p e ha hc hk s m _ below hf ((Spec.applies_iff_loose hf).mp happ).1 ⟨rfl, State.Warmed39.refl s, rfl, hCH0, all0⟩ trivial
  refine ⟨n, _, h1, h2, h3, hpost _ _ _ _ _ _ ⟨Cond.after_iff.mpr rfl, Cond.after_iff.mpr (eq_i res_at (Term.int_eval (1)) rfl), trivial⟩ ⟨hq.1, hq.2.1, hq.2.2.1, (hq.2.2.2.sift fun y hy => Or.inr (N y hy)).mono (by decide) (by decide)⟩⟩
theorem main_1_1 : Claimed_1_1 := comes_1 fun _ _ _ _ _ _ h hF => ⟨h.1, hF⟩
theorem main_1_2 : Claimed_1_2 := comes_1 fun _ _ _ _ _ _ h hF => ⟨h.2.1, hF⟩

end Jvm.Pilot.@@N@@
namespace Jvm.Pilot.@@N@@
open Jvm Jvm.ClassFile Sem Op Lib Jvm.Free Jvm.Stand Jvm.Pilot.@@N@@.Jvm.D
/-! MADE BY PROGRAM (witnessworld.py) out of the Statement's table words and the real class files: 22 classes; the members and pool entries that the words name. The judged class is class 1, her method 1. -/
namespace start1
open Jvm.ClassFile
def u (s : String) : CpInfo := .utf8 (stringToUtf16 s)
/-- a pool by its gaps: so many unusable entries, then the entry; so many at the end -/
def gap : Nat → List CpInfo → List CpInfo
  | 0, r => r
  | n + 1, r => .unusable :: gap n r
def poolList (es : List (Nat × CpInfo)) (last : Nat) : List CpInfo := es.foldr (fun e r => gap e.1 (e.2 :: r)) (gap last [])
def pool (es : List (Nat × CpInfo)) (last : Nat) : Array CpInfo := ⟨poolList es last⟩
def fileOf (pool : Array CpInfo) (this : Nat) (attrs : Array Attribute := #[]) (ms : Array MethodInfo := #[]) (fl : Nat := 33) (sup : Nat := 0) (ifs : Array Nat := #[]) (fds : Array FieldInfo := #[]) : ClassFile where
  minorVersion := 0
  majorVersion := 65
  constantPool := pool
  accessFlags := fl
  thisClass := this
  superClass := sup
  interfaces := ifs
  fields := fds
  methods := ms
  attributes := attrs
def plain (name : String) (sup : Option ClassId) : Class where
  name := name
  kind := .ordinary
  loader := none
  accessFlags := 33
  super := sup
  interfaces := #[]
  cf := none
  fields := #[]
  methods := #[]
  instanceTypes := #[]
  staticTypes := #[]
  resolved := #[]
  callSites := []
  init := .initialized
  statics := none
  mirror := none

def pool0 : Array CpInfo := pool [(5, u "<init>"), (0, u "()V"), (1, .class_ 10), (1, u "java/lang/Object")] 113

def k0c0 : Code := { maxStack := 0, maxLocals := 1, code := object_method_1_code, exceptionTable := #[], attributes := #[] }
def k0m0 : Method := { name := "<init>", desc := "()V", sig := { parameters := [], returnType := none }, accessFlags := 1, code := some k0c0 }
/-- java/lang/Object -/
def k0 : Class := { plain "java/lang/Object" none with
  accessFlags := 33
  interfaces := #[]
  cf := some (fileOf pool0 8 #[] #[{ accessFlags := 1, nameIndex := 5, descriptorIndex := 6, attributes := #[] }] 33 0 #[] #[])
  fields := #[]
  methods := #[k0m0]
  instanceTypes := #[]
  staticTypes := #[]
  resolved := Array.replicate 124 none
  statics := none }

def pool1 : Array CpInfo := pool [(2, .class_ 4), (1, u "java/lang/Object"), (0, u "<init>"), (0, u "()V"), (0, .integer 2147483647), (0, .fieldref 9 10), (0, .class_ 11), (0, .nameAndType 12 13), (0, u "com/example/backplane/backplane/IdSyntax"), (0, u "PLAIN"), (0, u "Lcom/example/backplane/backplane/IdSyntax;"), (0, .fieldref 9 15), (0, .nameAndType 16 13), (0, u "WITH_COLON"), (0, .fieldref 9 18), (0, .nameAndType 19 13), (0, u "BASE64_URL"), (0, .integer 65535), (0, .methodref 22 23), (0, .class_ 24), (0, .nameAndType 25 26), (0, u "com/example/backplane/backplane/IdSyntaxIsValidPinLaw"), (0, u "make"), (0, u "(ICCC)Ljava/lang/String;"), (0, .methodref 22 28), (0, .nameAndType 29 30), (0, u "allowed"), (0, u "(IC)Z"), (0, .methodref 9 32), (0, .nameAndType 33 34), (0, u "isValid"), (0, u "(Ljava/lang/String;I)Z"), (0, .class_ 36), (0, u "java/lang/String"), (0, .methodref 35 38), (0, .nameAndType 5 39), (0, u "([C)V"), (2, u "law"), (0, u "(IIIIII)Z")] 3

def k1m0 : Method := { name := "<init>", desc := "()V", sig := { parameters := [], returnType := none }, accessFlags := 1, code := none }
def k1c1 : Code := { maxStack := 4, maxLocals := 14, code := code, exceptionTable := #[], attributes := #[] }
def k1m1 : Method := { name := "law", desc := "(IIIIII)Z", sig := { parameters := [.int, .int, .int, .int, .int, .int], returnType := some .boolean }, accessFlags := 9, code := some k1c1 }
def k1c2 : Code := { maxStack := 6, maxLocals := 4, code := method_3_code, exceptionTable := #[], attributes := #[] }
def k1m2 : Method := { name := "make", desc := "(ICCC)Ljava/lang/String;", sig := { parameters := [.int, .char, .char, .char], returnType := some (.object "java/lang/String") }, accessFlags := 10, code := some k1c2 }
def k1c3 : Code := { maxStack := 2, maxLocals := 2, code := method_4_code, exceptionTable := #[], attributes := #[] }
def k1m3 : Method := { name := "allowed", desc := "(IC)Z", sig := { parameters := [.int, .char], returnType := some .boolean }, accessFlags := 10, code := some k1c3 }
/-- com/example/backplane/backplane/IdSyntaxIsValidPinLaw -/
def k1 : Class := { plain "com/example/backplane/backplane/IdSyntaxIsValidPinLaw" (some 0) with
  accessFlags := 49
  interfaces := #[]
  cf := some (fileOf pool1 22 #[] #[{ accessFlags := 1, nameIndex := 5, descriptorIndex := 6, attributes := #[] }, { accessFlags := 9, nameIndex := 42, descriptorIndex := 43, attributes := #[] }, { accessFlags := 10, nameIndex := 25, descriptorIndex := 26, attributes := #[] }, { accessFlags := 10, nameIndex := 29, descriptorIndex := 30, attributes := #[] }] 49 2 #[] #[])
  fields := #[]
  methods := #[k1m0, k1m1, k1m2, k1m3]
  instanceTypes := #[]
  staticTypes := #[]
  resolved := Array.replicate 47 none
  statics := none }

def pool2 : Array CpInfo := pool [(1, .class_ 2), (0, u "java/lang/constant/Constable"), (0, .class_ 4), (0, u "java/lang/Object")] 6

/-- java/lang/constant/Constable -/
def k2 : Class := { plain "java/lang/constant/Constable" (some 0) with
  accessFlags := 1537
  interfaces := #[]
  cf := some (fileOf pool2 1 #[] #[] 1537 3 #[] #[])
  fields := #[]
  methods := #[]
  instanceTypes := #[]
  staticTypes := #[]
  resolved := Array.replicate 11 none
  statics := none }

def pool3 : Array CpInfo := pool [(1, .class_ 2), (0, u "java/lang/Comparable"), (0, .class_ 4), (0, u "java/lang/Object")] 7

/-- java/lang/Comparable -/
def k3 : Class := { plain "java/lang/Comparable" (some 0) with
  accessFlags := 1537
  interfaces := #[]
  cf := some (fileOf pool3 1 #[] #[] 1537 3 #[] #[])
  fields := #[]
  methods := #[]
  instanceTypes := #[]
  staticTypes := #[]
  resolved := Array.replicate 12 none
  statics := none }

def pool4 : Array CpInfo := pool [(1, .class_ 2), (0, u "java/io/Serializable"), (0, .class_ 4), (0, u "java/lang/Object")] 2

/-- java/io/Serializable -/
def k4 : Class := { plain "java/io/Serializable" (some 0) with
  accessFlags := 1537
  interfaces := #[]
  cf := some (fileOf pool4 1 #[] #[] 1537 3 #[] #[])
  fields := #[]
  methods := #[]
  instanceTypes := #[]
  staticTypes := #[]
  resolved := Array.replicate 7 none
  statics := none }

def pool5 : Array CpInfo := pool [(2, .class_ 4), (1, u "java/lang/Enum"), (0, u "name"), (0, u "Ljava/lang/String;"), (2, u "ordinal"), (0, u "I"), (1, .class_ 14), (1, u "java/lang/Object"), (4, u "hash"), (86, .class_ 108), (1, u "java/lang/Enum$EnumDesc"), (2, .class_ 112), (0, u "java/lang/constant/Constable"), (0, .class_ 114), (0, u "java/lang/Comparable"), (0, .class_ 116), (0, u "java/io/Serializable")] 87

/-- java/lang/Enum -/
def k5 : Class := { plain "java/lang/Enum" (some 0) with
  accessFlags := 1057
  interfaces := #[2, 3, 4]
  cf := some (fileOf pool5 2 #[.nestMembers #[106]] #[] 1057 12 #[111, 113, 115] #[{ accessFlags := 18, nameIndex := 5, descriptorIndex := 6, attributes := #[] }, { accessFlags := 18, nameIndex := 9, descriptorIndex := 10, attributes := #[] }, { accessFlags := 2, nameIndex := 19, descriptorIndex := 10, attributes := #[] }])
  fields := #[{ name := "name", type := (.object "java/lang/String"), accessFlags := 18, slot := 0, constantValue := 0 }, { name := "ordinal", type := .int, accessFlags := 18, slot := 1, constantValue := 0 }, { name := "hash", type := .int, accessFlags := 2, slot := 2, constantValue := 0 }]
  methods := #[]
  instanceTypes := #[(.object "java/lang/String"), .int, .int]
  staticTypes := #[]
  resolved := Array.replicate 204 none
  statics := none }

def pool6 : Array CpInfo := pool [(1, .class_ 2), (0, u "com/example/backplane/backplane/IdSyntax"), (2, u "PLAIN"), (0, u "Lcom/example/backplane/backplane/IdSyntax;"), (2, u "WITH_COLON"), (2, u "BASE64_URL"), (2, u "$VALUES"), (0, u "[Lcom/example/backplane/backplane/IdSyntax;"), (6, .class_ 25), (1, u "java/lang/Enum"), (6, .fieldref 1 33), (0, .nameAndType 34 35), (0, u "punctuation"), (0, u "Ljava/lang/String;"), (0, .methodref 37 38), (0, .class_ 39), (0, .nameAndType 40 41), (0, u "java/lang/String"), (0, u "isEmpty"), (0, u "()Z"), (0, .methodref 37 43), (0, .nameAndType 44 45), (0, u "length"), (0, u "()I"), (0, .methodref 37 47), (0, .nameAndType 48 49), (0, u "charAt"), (0, u "(I)C"), (0, .methodref 1 51), (0, .nameAndType 52 53), (0, u "isIdCharacter"), (0, u "(C)Z"), (23, .methodref 37 78), (0, .nameAndType 79 80), (0, u "indexOf"), (0, u "(I)I"), (23, u "isValid"), (0, u "(Ljava/lang/String;I)Z")] 22

def k6c0 : Code := { maxStack := 3, maxLocals := 4, code := prog_8_method_4_code, exceptionTable := #[], attributes := #[] }
def k6m0 : Method := { name := "isValid", desc := "(Ljava/lang/String;I)Z", sig := { parameters := [(.object "java/lang/String"), .int], returnType := some .boolean }, accessFlags := 0, code := some k6c0 }
def k6c1 : Code := { maxStack := 2, maxLocals := 2, code := prog_8_method_6_code, exceptionTable := #[], attributes := #[] }
def k6m1 : Method := { name := "isIdCharacter", desc := "(C)Z", sig := { parameters := [.char], returnType := some .boolean }, accessFlags := 2, code := some k6c1 }
/-- com/example/backplane/backplane/IdSyntax -/
def k6 : Class := { plain "com/example/backplane/backplane/IdSyntax" (some 5) with
  accessFlags := 16432
  interfaces := #[]
  cf := some (fileOf pool6 1 #[] #[{ accessFlags := 0, nameIndex := 104, descriptorIndex := 105, attributes := #[] }, { accessFlags := 2, nameIndex := 52, descriptorIndex := 53, attributes := #[] }] 16432 23 #[] #[{ accessFlags := 16409, nameIndex := 5, descriptorIndex := 6, attributes := #[] }, { accessFlags := 16409, nameIndex := 9, descriptorIndex := 6, attributes := #[] }, { accessFlags := 16409, nameIndex := 12, descriptorIndex := 6, attributes := #[] }, { accessFlags := 18, nameIndex := 34, descriptorIndex := 35, attributes := #[] }, { accessFlags := 4122, nameIndex := 15, descriptorIndex := 16, attributes := #[] }])
  fields := #[{ name := "PLAIN", type := (.object "com/example/backplane/backplane/IdSyntax"), accessFlags := 16409, slot := 0, constantValue := 0 }, { name := "WITH_COLON", type := (.object "com/example/backplane/backplane/IdSyntax"), accessFlags := 16409, slot := 1, constantValue := 0 }, { name := "BASE64_URL", type := (.object "com/example/backplane/backplane/IdSyntax"), accessFlags := 16409, slot := 2, constantValue := 0 }, { name := "punctuation", type := (.object "java/lang/String"), accessFlags := 18, slot := 3, constantValue := 0 }, { name := "$VALUES", type := (.array (.object "com/example/backplane/backplane/IdSyntax")), accessFlags := 4122, slot := 3, constantValue := 0 }]
  methods := #[k6m0, k6m1]
  instanceTypes := #[(.object "java/lang/String"), .int, .int, (.object "java/lang/String")]
  staticTypes := #[(.object "com/example/backplane/backplane/IdSyntax"), (.object "com/example/backplane/backplane/IdSyntax"), (.object "com/example/backplane/backplane/IdSyntax"), (.array (.object "com/example/backplane/backplane/IdSyntax"))]
  resolved := Array.replicate 128 none
  statics := some 0 }

def pool7 : Array CpInfo := pool [(2, .class_ 4), (1, u "java/lang/CharSequence"), (42, .class_ 48), (0, u "java/lang/CharSequence$1CodePointIterator"), (10, .class_ 60), (0, u "java/lang/CharSequence$1CharIterator"), (5, .class_ 67), (0, u "java/lang/Object")] 63

/-- java/lang/CharSequence -/
def k7 : Class := { plain "java/lang/CharSequence" (some 0) with
  accessFlags := 1537
  interfaces := #[]
  cf := some (fileOf pool7 2 #[.nestMembers #[47, 59]] #[] 1537 66 #[] #[])
  fields := #[]
  methods := #[]
  instanceTypes := #[]
  staticTypes := #[]
  resolved := Array.replicate 131 none
  statics := none }

def pool8 : Array CpInfo := pool [(1, .class_ 2), (0, u "java/lang/constant/ConstantDesc"), (0, .class_ 4), (0, u "java/lang/Object")] 32

/-- java/lang/constant/ConstantDesc -/
def k8 : Class := { plain "java/lang/constant/ConstantDesc" (some 0) with
  accessFlags := 1537
  interfaces := #[]
  cf := some (fileOf pool8 1 #[] #[] 1537 3 #[] #[])
  fields := #[]
  methods := #[]
  instanceTypes := #[]
  staticTypes := #[]
  resolved := Array.replicate 37 none
  statics := none }

def pool9 : Array CpInfo := pool [(1, .methodref 2 3), (0, .class_ 4), (0, .nameAndType 5 6), (0, u "java/lang/Object"), (0, u "<init>"), (0, u "()V"), (0, .string 8), (0, u ""), (0, .fieldref 10 11), (0, .class_ 12), (0, .nameAndType 13 14), (0, u "java/lang/String"), (0, u "value"), (0, u "[B"), (0, .fieldref 10 16), (0, .nameAndType 17 18), (0, u "coder"), (0, u "B"), (2, u "hash"), (0, u "I"), (2, u "hashIsZero"), (0, u "Z"), (0, .methodref 10 28), (0, .nameAndType 5 29), (0, u "([CIILjava/lang/Void;)V"), (8, .fieldref 10 39), (0, .nameAndType 40 26), (0, u "COMPACT_STRINGS"), (1, .class_ 44), (1, u "java/lang/StringUTF16"), (0, u "compress"), (1, .methodref 42 48), (0, .nameAndType 49 50), (0, u "coderFromArrayLen"), (0, u "([BI)B"), (56, .class_ 109), (1, u "java/lang/StringLatin1"), (32, u "()Z"), (34, .methodref 42 178), (0, .nameAndType 45 179), (0, u "([CII)[B"), (154, u "()I"), (0, .methodref 10 336), (0, .nameAndType 17 337), (0, u "()B"), (25, u "([BI)C"), (27, u "(II)V"), (35, u "(I)C"), (64, .methodref 10 493), (0, .nameAndType 494 142), (0, u "isLatin1"), (0, .methodref 107 496), (0, .nameAndType 497 363), (0, u "charAt"), (0, .methodref 42 496), (2, u "checkIndex"), (3, .methodref 10 506), (0, .nameAndType 507 334), (0, u "length"), (67, .class_ 576), (0, u "java/lang/CharSequence"), (22, u "CASE_INSENSITIVE_ORDER"), (0, u "Ljava/util/Comparator;"), (32, .methodref 10 634), (0, .nameAndType 635 636), (0, u "indexOf"), (0, u "(II)I"), (0, .methodref 107 638), (0, .nameAndType 635 639), (0, u "([BIII)I"), (52, u "isEmpty"), (72, u "(I)I"), (244, u "([C)V"), (42, .fieldref 1054 1055), (0, .class_ 1056), (0, .nameAndType 1057 1058), (0, u "jdk/internal/util/Preconditions"), (0, u "SIOOBE_FORMATTER"), (0, u "Ljava/util/function/BiFunction;"), (0, .methodref 1054 1060), (0, .nameAndType 501 1061), (0, u "(IILjava/util/function/BiFunction;)I"), (39, u "serialPersistentFields"), (0, u "[Ljava/io/ObjectStreamField;"), (0, .class_ 1104), (0, u "java/lang/String$CaseInsensitiveComparator"), (1, .class_ 1107), (0, u "java/io/Serializable"), (0, .class_ 1109), (0, u "java/lang/Comparable"), (0, .class_ 1111), (0, u "java/lang/constant/Constable"), (0, .class_ 1113), (0, u "java/lang/constant/ConstantDesc"), (2, u "serialVersionUID"), (0, u "J"), (3, u "REPL"), (0, u "C"), (2, u "LATIN1"), (1, u "UTF16")] 323

def k9m0 : Method := { name := "<init>", desc := "()V", sig := { parameters := [], returnType := none }, accessFlags := 1, code := none }
def k9c1 : Code := { maxStack := 5, maxLocals := 2, code := jdk_42_method_3_code, exceptionTable := #[], attributes := #[] }
def k9m1 : Method := { name := "<init>", desc := "([C)V", sig := { parameters := [(.array .char)], returnType := none }, accessFlags := 1, code := some k9c1 }
def k9c2 : Code := { maxStack := 2, maxLocals := 1, code := jdk_42_method_54_code, exceptionTable := #[], attributes := #[] }
def k9m2 : Method := { name := "length", desc := "()I", sig := { parameters := [], returnType := some .int }, accessFlags := 1, code := some k9c2 }
def k9c3 : Code := { maxStack := 1, maxLocals := 1, code := jdk_42_method_55_code, exceptionTable := #[], attributes := #[] }
def k9m3 : Method := { name := "isEmpty", desc := "()Z", sig := { parameters := [], returnType := some .boolean }, accessFlags := 1, code := some k9c3 }
def k9c4 : Code := { maxStack := 2, maxLocals := 2, code := jdk_42_method_56_code, exceptionTable := #[], attributes := #[] }
def k9m4 : Method := { name := "charAt", desc := "(I)C", sig := { parameters := [.int], returnType := some .char }, accessFlags := 1, code := some k9c4 }
def k9c5 : Code := { maxStack := 3, maxLocals := 2, code := jdk_42_method_79_code, exceptionTable := #[], attributes := #[] }
def k9m5 : Method := { name := "indexOf", desc := "(I)I", sig := { parameters := [.int], returnType := some .int }, accessFlags := 1, code := some k9c5 }
def k9c6 : Code := { maxStack := 4, maxLocals := 3, code := jdk_42_method_80_code, exceptionTable := #[], attributes := #[] }
def k9m6 : Method := { name := "indexOf", desc := "(II)I", sig := { parameters := [.int, .int], returnType := some .int }, accessFlags := 1, code := some k9c6 }
def k9c7 : Code := { maxStack := 4, maxLocals := 6, code := jdk_42_method_149_code, exceptionTable := #[], attributes := #[] }
def k9m7 : Method := { name := "<init>", desc := "([CIILjava/lang/Void;)V", sig := { parameters := [(.array .char), .int, .int, (.object "java/lang/Void")], returnType := none }, accessFlags := 2, code := some k9c7 }
def k9c8 : Code := { maxStack := 1, maxLocals := 1, code := jdk_42_method_152_code, exceptionTable := #[], attributes := #[] }
def k9m8 : Method := { name := "coder", desc := "()B", sig := { parameters := [], returnType := some .byte }, accessFlags := 0, code := some k9c8 }
def k9c9 : Code := { maxStack := 1, maxLocals := 1, code := jdk_42_method_154_code, exceptionTable := #[], attributes := #[] }
def k9m9 : Method := { name := "isLatin1", desc := "()Z", sig := { parameters := [], returnType := some .boolean }, accessFlags := 0, code := some k9c9 }
def k9c10 : Code := { maxStack := 3, maxLocals := 2, code := jdk_42_method_155_code, exceptionTable := #[], attributes := #[] }
def k9m10 : Method := { name := "checkIndex", desc := "(II)V", sig := { parameters := [.int, .int], returnType := none }, accessFlags := 8, code := some k9c10 }
/-- java/lang/String -/
def k9 : Class := { plain "java/lang/String" (some 0) with
  accessFlags := 49
  interfaces := #[4, 3, 7, 2, 8]
  cf := some (fileOf pool9 10 #[.nestMembers #[1103]] #[{ accessFlags := 1, nameIndex := 5, descriptorIndex := 6, attributes := #[] }, { accessFlags := 1, nameIndex := 5, descriptorIndex := 1010, attributes := #[] }, { accessFlags := 1, nameIndex := 507, descriptorIndex := 334, attributes := #[] }, { accessFlags := 1, nameIndex := 692, descriptorIndex := 142, attributes := #[] }, { accessFlags := 1, nameIndex := 497, descriptorIndex := 427, attributes := #[] }, { accessFlags := 1, nameIndex := 635, descriptorIndex := 765, attributes := #[] }, { accessFlags := 1, nameIndex := 635, descriptorIndex := 636, attributes := #[] }, { accessFlags := 2, nameIndex := 5, descriptorIndex := 29, attributes := #[] }, { accessFlags := 0, nameIndex := 17, descriptorIndex := 337, attributes := #[] }, { accessFlags := 0, nameIndex := 494, descriptorIndex := 142, attributes := #[] }, { accessFlags := 8, nameIndex := 501, descriptorIndex := 391, attributes := #[] }] 49 2 #[1106, 1108, 575, 1110, 1112] #[{ accessFlags := 18, nameIndex := 13, descriptorIndex := 14, attributes := #[] }, { accessFlags := 18, nameIndex := 17, descriptorIndex := 18, attributes := #[] }, { accessFlags := 2, nameIndex := 21, descriptorIndex := 22, attributes := #[] }, { accessFlags := 2, nameIndex := 25, descriptorIndex := 26, attributes := #[] }, { accessFlags := 26, nameIndex := 1116, descriptorIndex := 1117, attributes := #[] }, { accessFlags := 24, nameIndex := 40, descriptorIndex := 26, attributes := #[] }, { accessFlags := 26, nameIndex := 1101, descriptorIndex := 1102, attributes := #[] }, { accessFlags := 26, nameIndex := 1121, descriptorIndex := 1122, attributes := #[] }, { accessFlags := 25, nameIndex := 599, descriptorIndex := 600, attributes := #[] }, { accessFlags := 24, nameIndex := 1125, descriptorIndex := 18, attributes := #[] }, { accessFlags := 24, nameIndex := 1127, descriptorIndex := 18, attributes := #[] }])
  fields := #[{ name := "value", type := (.array .byte), accessFlags := 18, slot := 0, constantValue := 0 }, { name := "coder", type := .byte, accessFlags := 18, slot := 1, constantValue := 0 }, { name := "hash", type := .int, accessFlags := 2, slot := 2, constantValue := 0 }, { name := "hashIsZero", type := .boolean, accessFlags := 2, slot := 3, constantValue := 0 }, { name := "serialVersionUID", type := .long, accessFlags := 26, slot := 0, constantValue := 0 }, { name := "COMPACT_STRINGS", type := .boolean, accessFlags := 24, slot := 1, constantValue := 0 }, { name := "serialPersistentFields", type := (.array (.object "java/io/ObjectStreamField")), accessFlags := 26, slot := 2, constantValue := 0 }, { name := "REPL", type := .char, accessFlags := 26, slot := 3, constantValue := 0 }, { name := "CASE_INSENSITIVE_ORDER", type := (.object "java/util/Comparator"), accessFlags := 25, slot := 4, constantValue := 0 }, { name := "LATIN1", type := .byte, accessFlags := 24, slot := 5, constantValue := 0 }, { name := "UTF16", type := .byte, accessFlags := 24, slot := 6, constantValue := 0 }]
  methods := #[k9m0, k9m1, k9m2, k9m3, k9m4, k9m5, k9m6, k9m7, k9m8, k9m9, k9m10]
  instanceTypes := #[(.array .byte), .byte, .int, .boolean]
  staticTypes := #[.long, .boolean, (.array (.object "java/io/ObjectStreamField")), .char, (.object "java/util/Comparator"), .byte, .byte]
  resolved := Array.replicate 1451 none
  statics := some 1 }

def pool10 : Array CpInfo := pool [(3, .class_ 4), (0, u "java/lang/String"), (1, .class_ 8), (1, u "java/lang/Object"), (0, u "<init>"), (0, u "()V"), (0, .methodref 12 13), (0, .class_ 14), (0, .nameAndType 15 16), (0, u "java/lang/StringUTF16"), (0, u "newBytesLength"), (0, u "(I)I"), (3, .integer 1073741823), (23, .fieldref 12 45), (0, .nameAndType 46 47), (0, u "$assertionsDisabled"), (0, u "Z"), (0, .methodref 12 49), (0, .nameAndType 50 51), (0, u "length"), (0, u "([B)I"), (7, .fieldref 12 60), (0, .nameAndType 61 62), (0, u "HI_BYTE_SHIFT"), (0, u "I"), (0, .fieldref 12 64), (0, .nameAndType 65 62), (0, u "LO_BYTE_SHIFT"), (1, .methodref 12 68), (0, .nameAndType 69 70), (0, u "checkIndex"), (0, u "(I[B)V"), (0, .methodref 12 72), (0, .nameAndType 73 74), (0, u "getChar"), (0, u "([BI)C"), (32, .methodref 12 108), (0, .nameAndType 109 110), (0, u "newBytesFor"), (0, u "(I)[B"), (0, .methodref 12 112), (0, .nameAndType 113 114), (0, u "putChar"), (0, u "([BII)V"), (0, .methodref 12 116), (0, .nameAndType 117 118), (0, u "compress"), (0, u "([CI[BII)I"), (0, .methodref 12 120), (0, .nameAndType 121 122), (0, u "toBytes"), (0, u "([CII)[B"), (138, u "coderFromArrayLen"), (0, u "([BI)B"), (106, .class_ 371), (1, u "java/lang/StringUTF16$LinesSpliterator"), (20, u "charAt"), (21, .methodref 3 415), (0, .nameAndType 69 416), (0, u "(II)V"), (13, u "MAX_LENGTH"), (196, .class_ 628), (0, u "java/lang/StringUTF16$CodePointsSpliterator"), (0, .class_ 630), (0, u "java/lang/StringUTF16$CharsSpliterator")] 4

def k10m0 : Method := { name := "<init>", desc := "()V", sig := { parameters := [], returnType := none }, accessFlags := 0, code := none }
def k10c1 : Code := { maxStack := 1, maxLocals := 1, code := jdk_52_method_2_code, exceptionTable := #[], attributes := #[] }
def k10m1 : Method := { name := "newBytesFor", desc := "(I)[B", sig := { parameters := [.int], returnType := some (.array .byte) }, accessFlags := 9, code := some k10c1 }
def k10c2 : Code := { maxStack := 4, maxLocals := 1, code := jdk_52_method_3_code, exceptionTable := #[], attributes := #[] }
def k10m2 : Method := { name := "newBytesLength", desc := "(I)I", sig := { parameters := [.int], returnType := some .int }, accessFlags := 9, code := some k10c2 }
def k10c3 : Code := { maxStack := 4, maxLocals := 3, code := jdk_52_method_4_code, exceptionTable := #[], attributes := #[] }
def k10m3 : Method := { name := "putChar", desc := "([BII)V", sig := { parameters := [(.array .byte), .int, .int], returnType := none }, accessFlags := 8, code := some k10c3 }
def k10c4 : Code := { maxStack := 3, maxLocals := 2, code := jdk_52_method_5_code, exceptionTable := #[], attributes := #[] }
def k10m4 : Method := { name := "getChar", desc := "([BI)C", sig := { parameters := [(.array .byte), .int], returnType := some .char }, accessFlags := 8, code := some k10c4 }
def k10c5 : Code := { maxStack := 2, maxLocals := 1, code := jdk_52_method_6_code, exceptionTable := #[], attributes := #[] }
def k10m5 : Method := { name := "length", desc := "([B)I", sig := { parameters := [(.array .byte)], returnType := some .int }, accessFlags := 9, code := some k10c5 }
def k10c6 : Code := { maxStack := 4, maxLocals := 5, code := jdk_52_method_14_code, exceptionTable := #[], attributes := #[] }
def k10m6 : Method := { name := "toBytes", desc := "([CII)[B", sig := { parameters := [(.array .char), .int, .int], returnType := some (.array .byte) }, accessFlags := 9, code := some k10c6 }
def k10c7 : Code := { maxStack := 2, maxLocals := 2, code := jdk_52_method_15_code, exceptionTable := #[], attributes := #[] }
def k10m7 : Method := { name := "coderFromArrayLen", desc := "([BI)B", sig := { parameters := [(.array .byte), .int], returnType := some .byte }, accessFlags := 8, code := some k10c7 }
def k10c8 : Code := { maxStack := 5, maxLocals := 6, code := jdk_52_method_16_code, exceptionTable := #[], attributes := #[] }
def k10m8 : Method := { name := "compress", desc := "([CII)[B", sig := { parameters := [(.array .char), .int, .int], returnType := some (.array .byte) }, accessFlags := 9, code := some k10c8 }
def k10c9 : Code := { maxStack := 3, maxLocals := 7, code := jdk_52_method_21_code, exceptionTable := #[], attributes := #[] }
def k10m9 : Method := { name := "compress", desc := "([CI[BII)I", sig := { parameters := [(.array .char), .int, (.array .byte), .int, .int], returnType := some .int }, accessFlags := 9, code := some k10c9 }
def k10c10 : Code := { maxStack := 2, maxLocals := 2, code := jdk_52_method_83_code, exceptionTable := #[], attributes := #[] }
def k10m10 : Method := { name := "charAt", desc := "([BI)C", sig := { parameters := [(.array .byte), .int], returnType := some .char }, accessFlags := 9, code := some k10c10 }
def k10c11 : Code := { maxStack := 2, maxLocals := 2, code := jdk_52_method_91_code, exceptionTable := #[], attributes := #[] }
def k10m11 : Method := { name := "checkIndex", desc := "(I[B)V", sig := { parameters := [.int, (.array .byte)], returnType := none }, accessFlags := 9, code := some k10c11 }
/-- java/lang/StringUTF16 -/
def k10 : Class := { plain "java/lang/StringUTF16" (some 0) with
  accessFlags := 48
  interfaces := #[]
  cf := some (fileOf pool10 12 #[.nestMembers #[627, 629, 369]] #[{ accessFlags := 0, nameIndex := 9, descriptorIndex := 10, attributes := #[] }, { accessFlags := 9, nameIndex := 109, descriptorIndex := 110, attributes := #[] }, { accessFlags := 9, nameIndex := 15, descriptorIndex := 16, attributes := #[] }, { accessFlags := 8, nameIndex := 113, descriptorIndex := 114, attributes := #[] }, { accessFlags := 8, nameIndex := 73, descriptorIndex := 74, attributes := #[] }, { accessFlags := 9, nameIndex := 50, descriptorIndex := 51, attributes := #[] }, { accessFlags := 9, nameIndex := 121, descriptorIndex := 122, attributes := #[] }, { accessFlags := 8, nameIndex := 261, descriptorIndex := 262, attributes := #[] }, { accessFlags := 9, nameIndex := 117, descriptorIndex := 122, attributes := #[] }, { accessFlags := 9, nameIndex := 117, descriptorIndex := 118, attributes := #[] }, { accessFlags := 9, nameIndex := 392, descriptorIndex := 74, attributes := #[] }, { accessFlags := 9, nameIndex := 69, descriptorIndex := 70, attributes := #[] }] 48 6 #[] #[{ accessFlags := 26, nameIndex := 61, descriptorIndex := 62, attributes := #[] }, { accessFlags := 26, nameIndex := 65, descriptorIndex := 62, attributes := #[] }, { accessFlags := 24, nameIndex := 430, descriptorIndex := 62, attributes := #[] }, { accessFlags := 4120, nameIndex := 46, descriptorIndex := 47, attributes := #[] }])
  fields := #[{ name := "HI_BYTE_SHIFT", type := .int, accessFlags := 26, slot := 0, constantValue := 0 }, { name := "LO_BYTE_SHIFT", type := .int, accessFlags := 26, slot := 1, constantValue := 0 }, { name := "MAX_LENGTH", type := .int, accessFlags := 24, slot := 2, constantValue := 0 }, { name := "$assertionsDisabled", type := .boolean, accessFlags := 4120, slot := 3, constantValue := 0 }]
  methods := #[k10m0, k10m1, k10m2, k10m3, k10m4, k10m5, k10m6, k10m7, k10m8, k10m9, k10m10, k10m11]
  instanceTypes := #[]
  staticTypes := #[.int, .int, .int, .boolean]
  resolved := Array.replicate 635 none
  statics := some 2 }

def pool11 : Array CpInfo := pool [(1, .class_ 2), (0, u "java/lang/String"), (1, .class_ 6), (1, u "java/lang/Object"), (0, u "<init>"), (0, u "()V"), (0, .methodref 1 10), (0, .nameAndType 11 12), (0, u "checkIndex"), (0, u "(II)V"), (1, .class_ 16), (1, u "java/lang/StringLatin1"), (21, .methodref 39 40), (0, .class_ 41), (0, .nameAndType 42 43), (0, u "java/lang/Math"), (0, u "min"), (0, u "(II)I"), (9, u "([BI)C"), (34, .methodref 14 89), (0, .nameAndType 90 91), (0, u "canEncode"), (0, u "(I)Z"), (0, .methodref 39 93), (0, .nameAndType 94 43), (0, u "max"), (0, .methodref 14 96), (0, .nameAndType 97 98), (0, u "indexOfChar"), (0, u "([BIII)I"), (2, u "indexOf"), (19, u "$assertionsDisabled"), (0, u "Z"), (98, .class_ 223), (1, u "java/lang/StringLatin1$LinesSpliterator"), (28, u "charAt"), (137, .class_ 391), (0, u "java/lang/StringLatin1$CharsSpliterator")] 3

def k11m0 : Method := { name := "<init>", desc := "()V", sig := { parameters := [], returnType := none }, accessFlags := 0, code := none }
def k11c1 : Code := { maxStack := 2, maxLocals := 2, code := jdk_43_method_2_code, exceptionTable := #[], attributes := #[] }
def k11m1 : Method := { name := "charAt", desc := "([BI)C", sig := { parameters := [(.array .byte), .int], returnType := some .char }, accessFlags := 9, code := some k11c1 }
def k11c2 : Code := { maxStack := 2, maxLocals := 1, code := jdk_43_method_4_code, exceptionTable := #[], attributes := #[] }
def k11m2 : Method := { name := "canEncode", desc := "(I)Z", sig := { parameters := [.int], returnType := some .boolean }, accessFlags := 9, code := some k11c2 }
def k11c3 : Code := { maxStack := 4, maxLocals := 4, code := jdk_43_method_22_code, exceptionTable := #[], attributes := #[] }
def k11m3 : Method := { name := "indexOf", desc := "([BIII)I", sig := { parameters := [(.array .byte), .int, .int, .int], returnType := some .int }, accessFlags := 9, code := some k11c3 }
def k11c4 : Code := { maxStack := 2, maxLocals := 6, code := jdk_43_method_23_code, exceptionTable := #[], attributes := #[] }
def k11m4 : Method := { name := "indexOfChar", desc := "([BIII)I", sig := { parameters := [(.array .byte), .int, .int, .int], returnType := some .int }, accessFlags := 10, code := some k11c4 }
/-- java/lang/StringLatin1 -/
def k11 : Class := { plain "java/lang/StringLatin1" (some 0) with
  accessFlags := 48
  interfaces := #[]
  cf := some (fileOf pool11 14 #[.nestMembers #[390, 221]] #[{ accessFlags := 0, nameIndex := 7, descriptorIndex := 8, attributes := #[] }, { accessFlags := 9, nameIndex := 252, descriptorIndex := 53, attributes := #[] }, { accessFlags := 9, nameIndex := 90, descriptorIndex := 91, attributes := #[] }, { accessFlags := 9, nameIndex := 101, descriptorIndex := 98, attributes := #[] }, { accessFlags := 10, nameIndex := 97, descriptorIndex := 98, attributes := #[] }] 48 4 #[] #[{ accessFlags := 4120, nameIndex := 121, descriptorIndex := 122, attributes := #[] }])
  fields := #[{ name := "$assertionsDisabled", type := .boolean, accessFlags := 4120, slot := 0, constantValue := 0 }]
  methods := #[k11m0, k11m1, k11m2, k11m3, k11m4]
  instanceTypes := #[]
  staticTypes := #[.boolean]
  resolved := Array.replicate 395 none
  statics := none }

def pool12 : Array CpInfo := pool [(2, .class_ 4), (1, u "java/lang/Object"), (0, u "<init>"), (0, u "()V"), (17, .class_ 26), (1, u "jdk/internal/util/Preconditions"), (6, u "checkIndex"), (21, .class_ 56), (0, u "jdk/internal/util/Preconditions$4"), (57, .class_ 115), (0, u "jdk/internal/util/Preconditions$1"), (7, u "SIOOBE_FORMATTER"), (0, u "Ljava/util/function/BiFunction;"), (0, .class_ 126), (0, u "jdk/internal/util/Preconditions$2"), (3, u "AIOOBE_FORMATTER"), (0, .class_ 132), (0, u "jdk/internal/util/Preconditions$3"), (3, u "IOOBE_FORMATTER"), (41, u "(IILjava/util/function/BiFunction;)I")] 15

def k12m0 : Method := { name := "<init>", desc := "()V", sig := { parameters := [], returnType := none }, accessFlags := 1, code := none }
def k12c1 : Code := { maxStack := 3, maxLocals := 3, code := jdk_41_method_11_code, exceptionTable := #[], attributes := #[] }
def k12m1 : Method := { name := "checkIndex", desc := "(IILjava/util/function/BiFunction;)I", sig := { parameters := [.int, .int, (.object "java/util/function/BiFunction")], returnType := some .int }, accessFlags := 9, code := some k12c1 }
/-- jdk/internal/util/Preconditions -/
def k12 : Class := { plain "jdk/internal/util/Preconditions" (some 0) with
  accessFlags := 33
  interfaces := #[]
  cf := some (fileOf pool12 24 #[.nestMembers #[55, 131, 125, 114]] #[{ accessFlags := 1, nameIndex := 5, descriptorIndex := 6, attributes := #[] }, { accessFlags := 9, nameIndex := 33, descriptorIndex := 178, attributes := #[] }] 33 2 #[] #[{ accessFlags := 25, nameIndex := 123, descriptorIndex := 124, attributes := #[] }, { accessFlags := 25, nameIndex := 130, descriptorIndex := 124, attributes := #[] }, { accessFlags := 25, nameIndex := 136, descriptorIndex := 124, attributes := #[] }])
  fields := #[{ name := "SIOOBE_FORMATTER", type := (.object "java/util/function/BiFunction"), accessFlags := 25, slot := 0, constantValue := 0 }, { name := "AIOOBE_FORMATTER", type := (.object "java/util/function/BiFunction"), accessFlags := 25, slot := 1, constantValue := 0 }, { name := "IOOBE_FORMATTER", type := (.object "java/util/function/BiFunction"), accessFlags := 25, slot := 2, constantValue := 0 }]
  methods := #[k12m0, k12m1]
  instanceTypes := #[]
  staticTypes := #[(.object "java/util/function/BiFunction"), (.object "java/util/function/BiFunction"), (.object "java/util/function/BiFunction")]
  resolved := Array.replicate 194 none
  statics := some 3 }

def pool13 : Array CpInfo := pool [(1, .class_ 2), (0, u "java/lang/Math"), (1, .class_ 6), (1, u "java/lang/Object"), (0, u "<init>"), (0, u "()V"), (89, .class_ 100), (1, u "java/lang/Math$RandomNumberGeneratorHolder"), (71, u "negativeZeroFloatBits"), (0, u "J"), (2, u "negativeZeroDoubleBits"), (21, u "max"), (2, u "min"), (43, u "$assertionsDisabled"), (0, u "Z"), (88, u "(II)I"), (2, u "twoToTheDoubleScaleDown"), (0, u "D"), (4, u "twoToTheDoubleScaleUp"), (9, u "E"), (3, u "PI"), (2, u "TAU"), (2, u "DEGREES_TO_RADIANS"), (0, u "RADIANS_TO_DEGREES")] 94

def k13m0 : Method := { name := "<init>", desc := "()V", sig := { parameters := [], returnType := none }, accessFlags := 2, code := none }
def k13c1 : Code := { maxStack := 2, maxLocals := 2, code := jdk_29_method_65_code, exceptionTable := #[], attributes := #[] }
def k13m1 : Method := { name := "max", desc := "(II)I", sig := { parameters := [.int, .int], returnType := some .int }, accessFlags := 9, code := some k13c1 }
def k13c2 : Code := { maxStack := 2, maxLocals := 2, code := jdk_29_method_69_code, exceptionTable := #[], attributes := #[] }
def k13m2 : Method := { name := "min", desc := "(II)I", sig := { parameters := [.int, .int], returnType := some .int }, accessFlags := 9, code := some k13c2 }
/-- java/lang/Math -/
def k13 : Class := { plain "java/lang/Math" (some 0) with
  accessFlags := 49
  interfaces := #[]
  cf := some (fileOf pool13 1 #[.nestMembers #[98]] #[{ accessFlags := 2, nameIndex := 7, descriptorIndex := 8, attributes := #[] }, { accessFlags := 9, nameIndex := 198, descriptorIndex := 335, attributes := #[] }, { accessFlags := 9, nameIndex := 201, descriptorIndex := 335, attributes := #[] }] 49 4 #[] #[{ accessFlags := 25, nameIndex := 354, descriptorIndex := 339, attributes := #[] }, { accessFlags := 25, nameIndex := 358, descriptorIndex := 339, attributes := #[] }, { accessFlags := 25, nameIndex := 361, descriptorIndex := 339, attributes := #[] }, { accessFlags := 26, nameIndex := 364, descriptorIndex := 339, attributes := #[] }, { accessFlags := 26, nameIndex := 365, descriptorIndex := 339, attributes := #[] }, { accessFlags := 26, nameIndex := 172, descriptorIndex := 173, attributes := #[] }, { accessFlags := 26, nameIndex := 176, descriptorIndex := 173, attributes := #[] }, { accessFlags := 8, nameIndex := 344, descriptorIndex := 339, attributes := #[] }, { accessFlags := 8, nameIndex := 338, descriptorIndex := 339, attributes := #[] }, { accessFlags := 4120, nameIndex := 245, descriptorIndex := 246, attributes := #[] }])
  fields := #[{ name := "E", type := .double, accessFlags := 25, slot := 0, constantValue := 0 }, { name := "PI", type := .double, accessFlags := 25, slot := 1, constantValue := 0 }, { name := "TAU", type := .double, accessFlags := 25, slot := 2, constantValue := 0 }, { name := "DEGREES_TO_RADIANS", type := .double, accessFlags := 26, slot := 3, constantValue := 0 }, { name := "RADIANS_TO_DEGREES", type := .double, accessFlags := 26, slot := 4, constantValue := 0 }, { name := "negativeZeroFloatBits", type := .long, accessFlags := 26, slot := 5, constantValue := 0 }, { name := "negativeZeroDoubleBits", type := .long, accessFlags := 26, slot := 6, constantValue := 0 }, { name := "twoToTheDoubleScaleUp", type := .double, accessFlags := 8, slot := 7, constantValue := 0 }, { name := "twoToTheDoubleScaleDown", type := .double, accessFlags := 8, slot := 8, constantValue := 0 }, { name := "$assertionsDisabled", type := .boolean, accessFlags := 4120, slot := 9, constantValue := 0 }]
  methods := #[k13m0, k13m1, k13m2]
  instanceTypes := #[]
  staticTypes := #[.double, .double, .double, .double, .double, .long, .long, .double, .double, .boolean]
  resolved := Array.replicate 460 none
  statics := none }

def pool14 : Array CpInfo := pool [(9, u "<init>"), (6, .class_ 18), (1, u "java/lang/Object"), (0, u "()V"), (1, .class_ 23), (1, u "jdk/internal/util/ArraysSupport"), (0, u "LOG2_ARRAY_LONG_INDEX_SCALE"), (0, u "I"), (2, u "U"), (0, u "Ljdk/internal/misc/Unsafe;"), (8, u "BIG_ENDIAN"), (0, u "Z"), (8, u "LOG2_BYTE_BIT_SIZE"), (4, u "LOG2_ARRAY_INT_INDEX_SCALE"), (54, u "JLA"), (0, u "Ljdk/internal/access/JavaLangAccess;"), (11, u "LOG2_ARRAY_BOOLEAN_INDEX_SCALE"), (9, u "LOG2_ARRAY_BYTE_INDEX_SCALE"), (5, u "LOG2_ARRAY_CHAR_INDEX_SCALE"), (5, u "LOG2_ARRAY_SHORT_INDEX_SCALE"), (18, u "LOG2_ARRAY_FLOAT_INDEX_SCALE"), (24, u "LOG2_ARRAY_DOUBLE_INDEX_SCALE"), (89, u "T_BOOLEAN"), (2, u "T_CHAR"), (1, u "T_FLOAT"), (1, u "T_DOUBLE"), (1, u "T_BYTE"), (1, u "T_SHORT"), (1, u "T_INT"), (1, u "T_LONG"), (1, u "SOFT_MAX_ARRAY_LENGTH")] 83

def k14m0 : Method := { name := "<init>", desc := "()V", sig := { parameters := [], returnType := none }, accessFlags := 2, code := none }
/-- jdk/internal/util/ArraysSupport -/
def k14 : Class := { plain "jdk/internal/util/ArraysSupport" (some 0) with
  accessFlags := 33
  interfaces := #[]
  cf := some (fileOf pool14 21 #[] #[{ accessFlags := 2, nameIndex := 9, descriptorIndex := 19, attributes := #[] }] 33 16 #[] #[{ accessFlags := 24, nameIndex := 28, descriptorIndex := 29, attributes := #[] }, { accessFlags := 26, nameIndex := 38, descriptorIndex := 39, attributes := #[] }, { accessFlags := 25, nameIndex := 121, descriptorIndex := 25, attributes := #[] }, { accessFlags := 25, nameIndex := 131, descriptorIndex := 25, attributes := #[] }, { accessFlags := 25, nameIndex := 137, descriptorIndex := 25, attributes := #[] }, { accessFlags := 25, nameIndex := 143, descriptorIndex := 25, attributes := #[] }, { accessFlags := 25, nameIndex := 53, descriptorIndex := 25, attributes := #[] }, { accessFlags := 25, nameIndex := 24, descriptorIndex := 25, attributes := #[] }, { accessFlags := 25, nameIndex := 162, descriptorIndex := 25, attributes := #[] }, { accessFlags := 25, nameIndex := 187, descriptorIndex := 25, attributes := #[] }, { accessFlags := 26, nameIndex := 48, descriptorIndex := 25, attributes := #[] }, { accessFlags := 25, nameIndex := 277, descriptorIndex := 25, attributes := #[] }, { accessFlags := 25, nameIndex := 280, descriptorIndex := 25, attributes := #[] }, { accessFlags := 25, nameIndex := 282, descriptorIndex := 25, attributes := #[] }, { accessFlags := 25, nameIndex := 284, descriptorIndex := 25, attributes := #[] }, { accessFlags := 25, nameIndex := 286, descriptorIndex := 25, attributes := #[] }, { accessFlags := 25, nameIndex := 288, descriptorIndex := 25, attributes := #[] }, { accessFlags := 25, nameIndex := 290, descriptorIndex := 25, attributes := #[] }, { accessFlags := 25, nameIndex := 292, descriptorIndex := 25, attributes := #[] }, { accessFlags := 26, nameIndex := 108, descriptorIndex := 109, attributes := #[] }, { accessFlags := 25, nameIndex := 294, descriptorIndex := 25, attributes := #[] }])
  fields := #[{ name := "U", type := (.object "jdk/internal/misc/Unsafe"), accessFlags := 24, slot := 0, constantValue := 0 }, { name := "BIG_ENDIAN", type := .boolean, accessFlags := 26, slot := 1, constantValue := 0 }, { name := "LOG2_ARRAY_BOOLEAN_INDEX_SCALE", type := .int, accessFlags := 25, slot := 2, constantValue := 0 }, { name := "LOG2_ARRAY_BYTE_INDEX_SCALE", type := .int, accessFlags := 25, slot := 3, constantValue := 0 }, { name := "LOG2_ARRAY_CHAR_INDEX_SCALE", type := .int, accessFlags := 25, slot := 4, constantValue := 0 }, { name := "LOG2_ARRAY_SHORT_INDEX_SCALE", type := .int, accessFlags := 25, slot := 5, constantValue := 0 }, { name := "LOG2_ARRAY_INT_INDEX_SCALE", type := .int, accessFlags := 25, slot := 6, constantValue := 0 }, { name := "LOG2_ARRAY_LONG_INDEX_SCALE", type := .int, accessFlags := 25, slot := 7, constantValue := 0 }, { name := "LOG2_ARRAY_FLOAT_INDEX_SCALE", type := .int, accessFlags := 25, slot := 8, constantValue := 0 }, { name := "LOG2_ARRAY_DOUBLE_INDEX_SCALE", type := .int, accessFlags := 25, slot := 9, constantValue := 0 }, { name := "LOG2_BYTE_BIT_SIZE", type := .int, accessFlags := 26, slot := 10, constantValue := 0 }, { name := "T_BOOLEAN", type := .int, accessFlags := 25, slot := 11, constantValue := 0 }, { name := "T_CHAR", type := .int, accessFlags := 25, slot := 12, constantValue := 0 }, { name := "T_FLOAT", type := .int, accessFlags := 25, slot := 13, constantValue := 0 }, { name := "T_DOUBLE", type := .int, accessFlags := 25, slot := 14, constantValue := 0 }, { name := "T_BYTE", type := .int, accessFlags := 25, slot := 15, constantValue := 0 }, { name := "T_SHORT", type := .int, accessFlags := 25, slot := 16, constantValue := 0 }, { name := "T_INT", type := .int, accessFlags := 25, slot := 17, constantValue := 0 }, { name := "T_LONG", type := .int, accessFlags := 25, slot := 18, constantValue := 0 }, { name := "JLA", type := (.object "jdk/internal/access/JavaLangAccess"), accessFlags := 26, slot := 19, constantValue := 0 }, { name := "SOFT_MAX_ARRAY_LENGTH", type := .int, accessFlags := 25, slot := 20, constantValue := 0 }]
  methods := #[k14m0]
  instanceTypes := #[]
  staticTypes := #[(.object "jdk/internal/misc/Unsafe"), .boolean, .int, .int, .int, .int, .int, .int, .int, .int, .int, .int, .int, .int, .int, .int, .int, .int, .int, (.object "jdk/internal/access/JavaLangAccess"), .int]
  resolved := Array.replicate 378 none
  statics := none }

def pool15 : Array CpInfo := pool [(1, u "java/lang/Cloneable"), (0, .class_ 1), (0, u "java/lang/Object"), (0, .class_ 3)] 3

/-- java/lang/Cloneable -/
def k15 : Class := { plain "java/lang/Cloneable" (some 0) with
  accessFlags := 1537
  interfaces := #[]
  cf := some (fileOf pool15 2 #[] #[] 1537 4 #[] #[])
  fields := #[]
  methods := #[]
  instanceTypes := #[]
  staticTypes := #[]
  resolved := Array.replicate 8 none
  statics := none }

/-- the primitive byte -/
def k16 : Class := { plain "byte" none with kind := .primitive 'B', accessFlags := 0x411 }
/-- [B -/
def k17 : Class := { plain "[B" (some 0) with kind := .array 16 .byte, interfaces := #[15, 4], accessFlags := 1041 }

/-- the primitive char -/
def k18 : Class := { plain "char" none with kind := .primitive 'C', accessFlags := 0x411 }
/-- [C -/
def k19 : Class := { plain "[C" (some 0) with kind := .array 18 .char, interfaces := #[15, 4], accessFlags := 1041 }

/-- the primitive int -/
def k20 : Class := { plain "int" none with kind := .primitive 'I', accessFlags := 0x411 }
/-- [I -/
def k21 : Class := { plain "[I" (some 0) with kind := .array 20 .int, interfaces := #[15, 4], accessFlags := 1041 }

def heap : Heap := #[{ cls := 6, slots := #[.ref 6, .ref 9, .ref 12, .null], vm := .statics 6 },
  { cls := 9, slots := #[.long 0, .int 1, .null, .int 0, .null, .int 0, .int 0], vm := .statics 9 },
  { cls := 10, slots := #[.int 0, .int 8, .int 0, .int 1], vm := .statics 10 },
  { cls := 12, slots := #[.null, .null, .null], vm := .statics 12 },
  { cls := 17, slots := #[.int 46, .int 95, .int 45], vm := .none },
  { cls := 9, slots := #[.ref 4, .int 0, .int 0, .int 0], vm := .none },
  { cls := 6, slots := #[.null, .int 0, .int 0, .ref 5], vm := .none },
  { cls := 17, slots := #[.int 46, .int 95, .int 45, .int 58], vm := .none },
  { cls := 9, slots := #[.ref 7, .int 0, .int 0, .int 0], vm := .none },
  { cls := 6, slots := #[.null, .int 1, .int 0, .ref 8], vm := .none },
  { cls := 17, slots := #[.int 45, .int 95], vm := .none },
  { cls := 9, slots := #[.ref 10, .int 0, .int 0, .int 0], vm := .none },
  { cls := 6, slots := #[.null, .int 2, .int 0, .ref 11], vm := .none }]
def classes : Array Class := #[k0, k1, k2, k3, k4, k5, k6, k7, k8, k9, k10, k11, k12, k13, k14, k15, k16, k17, k18, k19, k20, k21]
def interned : List (Array UInt16 × Addr) := []
def slotsUsed : Nat := 51
def theMethod : MethodId := ⟨1, 1⟩
def args0 : Array Value := #[.int 5, .int 3, .int 4, .int 6, .int 7, .int 8]
def aboutOver (below : List Frame) : State where
  vm := { classes := classes, interned := interned.toArray }
  heap := heap
  slotsUsed := slotsUsed
  threads := #[{ frames := .invoking theMethod args0 :: below }]
def below0 : List Frame := [.native { method := ⟨0, 0⟩, args := #[] }]
def about1 : State := aboutOver below0
def p0 : Program := .bare "" "" ""
def e0 : Env := launch0.env 0 0 0
theorem w_frames : about1.frames = Frame.invoking theMethod args0 :: below0 := rfl
set_option maxRecDepth 65536 in
theorem w_args : argsFit about1.vm theMethod args0 = true := by decide +kernel
set_option maxRecDepth 65536 in
theorem w_heap : heapFits about1 = true := by decide +kernel
set_option maxRecDepth 65536 in
theorem w_runnable : about1.curStatus? = some .runnable := by decide +kernel
set_option maxRecDepth 65536 in
theorem w_alone : about1.alone = true := by decide +kernel
set_option maxRecDepth 65536 in
theorem w_named : about1.methodNamed? x = some theMethod := by decide +kernel
set_option maxRecDepth 65536 in
theorem w_hears : about1.hears theMethod below0 = true := by decide +kernel
set_option maxRecDepth 65536 in
theorem w_ripe : about1.ripe theMethod args0 below0 = true := by decide +kernel
theorem w_running : about1.status = .running := rfl
set_option maxRecDepth 65536 in
theorem w_room : about1.hasRoom e0.platform room_1 = true :=
  launch0.hasRoom_least _ room_1 (by decide +kernel) (by decide +kernel) (by decide +kernel) (by decide +kernel) (by decide +kernel) (by decide +kernel)
theorem allAtoms_all (ts : List Jvm.Cond) (a : Array Jvm.Value) (st : Jvm.State) : (allAtoms ts).before a st = ts.all (fun c => c.before a st) := by
  induction ts with
  | nil => rfl
  | cons c t ih =>
    show (Jvm.Cond.and c (allAtoms t)).before a st = _
    rw [Jvm.Cond.before_and, ih, List.all_cons]
def words1 : List Jvm.Cond := Jvm.Cond.code x code maxLocals ret :: tables_1
/-- a 'code' word, met by the world's own term for the bytes: nothing is compared byte by byte -/
theorem code_word {y : MethodName} {bytes : ByteArray} {mx : Nat} {rt : Option FieldType} {a : Array Value} {s : State} {m : MethodId} {meth : Method} {c : Code} (h1 : s.methodNamed? y = some m) (h2 : s.vm.method? m = some meth) (h3 : meth.code = some c) (h4 : c.code = bytes)
    (h5 : (c.maxLocals == mx && c.exceptionTable.isEmpty && decide (c.maxStack ≤ mostOperands) && decide (meth.sig.returnType = rt) && !meth.locks && decide (parseMethodDescriptor y.desc = some meth.sig)) = true) : (Jvm.Cond.code y bytes mx rt).before a s = true := by
  simp only [Bool.and_eq_true, beq_iff_eq, Bool.not_eq_true', decide_eq_true_eq] at h5
  obtain ⟨⟨⟨⟨⟨g1, g2⟩, g3⟩, g4⟩, g5⟩, g6⟩ := h5
  simp [Cond.before, Cond.holds, Cond.value, h1, h2, h3, h4, g1, g2, g3, g4, g5, g6]
def isCode : Jvm.Cond → Bool
  | .code _ _ _ _ => true
  | _ => false
theorem all_split {L : List Jvm.Cond} {P : Jvm.Cond → Bool} (h1 : L.all (fun c => isCode c || P c) = true) (h2 : ∀ c ∈ L.filter isCode, P c = true) : L.all P = true := by
  refine List.all_eq_true.mpr fun c hc => ?_
  have h := List.all_eq_true.mp h1 c hc
  rcases Bool.eq_false_or_eq_true (isCode c) with hi | hi
  · exact h2 c (List.mem_filter.mpr ⟨hc, hi⟩)
  · simpa [hi] using h
set_option maxRecDepth 65536 in
theorem w_c0 : (Jvm.Cond.code x code maxLocals ret).before args0 about1 = true := code_word (m := ⟨1, 1⟩) (meth := k1m1) (c := k1c1) (by decide +kernel) rfl rfl rfl (by decide +kernel)
set_option maxRecDepth 65536 in
theorem w_c1 : (Jvm.Cond.code ({ cls := "com/example/backplane/backplane/IdSyntaxIsValidPinLaw", name := "make", desc := "(ICCC)Ljava/lang/String;" } : Jvm.MethodName) method_3_code (4 : Nat) (Option.some (Jvm.ClassFile.FieldType.object "java/lang/String"))).before args0 about1 = true := code_word (m := ⟨1, 2⟩) (meth := k1m2) (c := k1c2) (by decide +kernel) rfl rfl rfl (by decide +kernel)
set_option maxRecDepth 65536 in
theorem w_c2 : (Jvm.Cond.code ({ cls := "java/lang/String", name := "<init>", desc := "([C)V" } : Jvm.MethodName) jdk_42_method_3_code (2 : Nat) (Option.none : Option Jvm.ClassFile.FieldType)).before args0 about1 = true := code_word (m := ⟨9, 1⟩) (meth := k9m1) (c := k9c1) (by decide +kernel) rfl rfl rfl (by decide +kernel)
set_option maxRecDepth 65536 in
theorem w_c3 : (Jvm.Cond.code ({ cls := "java/lang/String", name := "<init>", desc := "([CIILjava/lang/Void;)V" } : Jvm.MethodName) jdk_42_method_149_code (6 : Nat) (Option.none : Option Jvm.ClassFile.FieldType)).before args0 about1 = true := code_word (m := ⟨9, 7⟩) (meth := k9m7) (c := k9c7) (by decide +kernel) rfl rfl rfl (by decide +kernel)
set_option maxRecDepth 65536 in
theorem w_c4 : (Jvm.Cond.code ({ cls := "java/lang/Object", name := "<init>", desc := "()V" } : Jvm.MethodName) object_method_1_code (1 : Nat) (Option.none : Option Jvm.ClassFile.FieldType)).before args0 about1 = true := code_word (m := ⟨0, 0⟩) (meth := k0m0) (c := k0c0) (by decide +kernel) rfl rfl rfl (by decide +kernel)
set_option maxRecDepth 65536 in
theorem w_c5 : (Jvm.Cond.code ({ cls := "java/lang/StringUTF16", name := "compress", desc := "([CII)[B" } : Jvm.MethodName) jdk_52_method_16_code (6 : Nat) (Option.some (Jvm.ClassFile.FieldType.array Jvm.ClassFile.FieldType.byte))).before args0 about1 = true := code_word (m := ⟨10, 8⟩) (meth := k10m8) (c := k10c8) (by decide +kernel) rfl rfl rfl (by decide +kernel)
set_option maxRecDepth 65536 in
theorem w_c6 : (Jvm.Cond.code ({ cls := "java/lang/StringUTF16", name := "compress", desc := "([CI[BII)I" } : Jvm.MethodName) jdk_52_method_21_code (7 : Nat) (Option.some Jvm.ClassFile.FieldType.int)).before args0 about1 = true := code_word (m := ⟨10, 9⟩) (meth := k10m9) (c := k10c9) (by decide +kernel) rfl rfl rfl (by decide +kernel)
set_option maxRecDepth 65536 in
theorem w_c7 : (Jvm.Cond.code ({ cls := "java/lang/StringUTF16", name := "coderFromArrayLen", desc := "([BI)B" } : Jvm.MethodName) jdk_52_method_15_code (2 : Nat) (Option.some Jvm.ClassFile.FieldType.byte)).before args0 about1 = true := code_word (m := ⟨10, 7⟩) (meth := k10m7) (c := k10c7) (by decide +kernel) rfl rfl rfl (by decide +kernel)
set_option maxRecDepth 65536 in
theorem w_c8 : (Jvm.Cond.code ({ cls := "com/example/backplane/backplane/IdSyntaxIsValidPinLaw", name := "allowed", desc := "(IC)Z" } : Jvm.MethodName) method_4_code (2 : Nat) (Option.some Jvm.ClassFile.FieldType.boolean)).before args0 about1 = true := code_word (m := ⟨1, 3⟩) (meth := k1m3) (c := k1c3) (by decide +kernel) rfl rfl rfl (by decide +kernel)
set_option maxRecDepth 65536 in
theorem w_c9 : (Jvm.Cond.code ({ cls := "com/example/backplane/backplane/IdSyntax", name := "isValid", desc := "(Ljava/lang/String;I)Z" } : Jvm.MethodName) prog_8_method_4_code (4 : Nat) (Option.some Jvm.ClassFile.FieldType.boolean)).before args0 about1 = true := code_word (m := ⟨6, 0⟩) (meth := k6m0) (c := k6c0) (by decide +kernel) rfl rfl rfl (by decide +kernel)
set_option maxRecDepth 65536 in
theorem w_c10 : (Jvm.Cond.code ({ cls := "java/lang/String", name := "isEmpty", desc := "()Z" } : Jvm.MethodName) jdk_42_method_55_code (1 : Nat) (Option.some Jvm.ClassFile.FieldType.boolean)).before args0 about1 = true := code_word (m := ⟨9, 3⟩) (meth := k9m3) (c := k9c3) (by decide +kernel) rfl rfl rfl (by decide +kernel)
set_option maxRecDepth 65536 in
theorem w_c11 : (Jvm.Cond.code ({ cls := "java/lang/String", name := "length", desc := "()I" } : Jvm.MethodName) jdk_42_method_54_code (1 : Nat) (Option.some Jvm.ClassFile.FieldType.int)).before args0 about1 = true := code_word (m := ⟨9, 2⟩) (meth := k9m2) (c := k9c2) (by decide +kernel) rfl rfl rfl (by decide +kernel)
set_option maxRecDepth 65536 in
theorem w_c12 : (Jvm.Cond.code ({ cls := "java/lang/String", name := "coder", desc := "()B" } : Jvm.MethodName) jdk_42_method_152_code (1 : Nat) (Option.some Jvm.ClassFile.FieldType.byte)).before args0 about1 = true := code_word (m := ⟨9, 8⟩) (meth := k9m8) (c := k9c8) (by decide +kernel) rfl rfl rfl (by decide +kernel)
set_option maxRecDepth 65536 in
theorem w_c13 : (Jvm.Cond.code ({ cls := "java/lang/String", name := "charAt", desc := "(I)C" } : Jvm.MethodName) jdk_42_method_56_code (2 : Nat) (Option.some Jvm.ClassFile.FieldType.char)).before args0 about1 = true := code_word (m := ⟨9, 4⟩) (meth := k9m4) (c := k9c4) (by decide +kernel) rfl rfl rfl (by decide +kernel)
set_option maxRecDepth 65536 in
theorem w_c14 : (Jvm.Cond.code ({ cls := "java/lang/String", name := "isLatin1", desc := "()Z" } : Jvm.MethodName) jdk_42_method_154_code (1 : Nat) (Option.some Jvm.ClassFile.FieldType.boolean)).before args0 about1 = true := code_word (m := ⟨9, 9⟩) (meth := k9m9) (c := k9c9) (by decide +kernel) rfl rfl rfl (by decide +kernel)
set_option maxRecDepth 65536 in
theorem w_c15 : (Jvm.Cond.code ({ cls := "java/lang/StringLatin1", name := "charAt", desc := "([BI)C" } : Jvm.MethodName) jdk_43_method_2_code (2 : Nat) (Option.some Jvm.ClassFile.FieldType.char)).before args0 about1 = true := code_word (m := ⟨11, 1⟩) (meth := k11m1) (c := k11c1) (by decide +kernel) rfl rfl rfl (by decide +kernel)
set_option maxRecDepth 65536 in
theorem w_c16 : (Jvm.Cond.code ({ cls := "java/lang/String", name := "checkIndex", desc := "(II)V" } : Jvm.MethodName) jdk_42_method_155_code (2 : Nat) (Option.none : Option Jvm.ClassFile.FieldType)).before args0 about1 = true := code_word (m := ⟨9, 10⟩) (meth := k9m10) (c := k9c10) (by decide +kernel) rfl rfl rfl (by decide +kernel)
set_option maxRecDepth 65536 in
theorem w_c17 : (Jvm.Cond.code ({ cls := "jdk/internal/util/Preconditions", name := "checkIndex", desc := "(IILjava/util/function/BiFunction;)I" } : Jvm.MethodName) jdk_41_method_11_code (3 : Nat) (Option.some Jvm.ClassFile.FieldType.int)).before args0 about1 = true := code_word (m := ⟨12, 1⟩) (meth := k12m1) (c := k12c1) (by decide +kernel) rfl rfl rfl (by decide +kernel)
set_option maxRecDepth 65536 in
theorem w_c18 : (Jvm.Cond.code ({ cls := "com/example/backplane/backplane/IdSyntax", name := "isIdCharacter", desc := "(C)Z" } : Jvm.MethodName) prog_8_method_6_code (2 : Nat) (Option.some Jvm.ClassFile.FieldType.boolean)).before args0 about1 = true := code_word (m := ⟨6, 1⟩) (meth := k6m1) (c := k6c1) (by decide +kernel) rfl rfl rfl (by decide +kernel)
set_option maxRecDepth 65536 in
theorem w_c19 : (Jvm.Cond.code ({ cls := "java/lang/String", name := "indexOf", desc := "(I)I" } : Jvm.MethodName) jdk_42_method_79_code (2 : Nat) (Option.some Jvm.ClassFile.FieldType.int)).before args0 about1 = true := code_word (m := ⟨9, 5⟩) (meth := k9m5) (c := k9c5) (by decide +kernel) rfl rfl rfl (by decide +kernel)
set_option maxRecDepth 65536 in
theorem w_c20 : (Jvm.Cond.code ({ cls := "java/lang/String", name := "indexOf", desc := "(II)I" } : Jvm.MethodName) jdk_42_method_80_code (3 : Nat) (Option.some Jvm.ClassFile.FieldType.int)).before args0 about1 = true := code_word (m := ⟨9, 6⟩) (meth := k9m6) (c := k9c6) (by decide +kernel) rfl rfl rfl (by decide +kernel)
set_option maxRecDepth 65536 in
theorem w_c21 : (Jvm.Cond.code ({ cls := "java/lang/StringLatin1", name := "indexOf", desc := "([BIII)I" } : Jvm.MethodName) jdk_43_method_22_code (4 : Nat) (Option.some Jvm.ClassFile.FieldType.int)).before args0 about1 = true := code_word (m := ⟨11, 3⟩) (meth := k11m3) (c := k11c3) (by decide +kernel) rfl rfl rfl (by decide +kernel)
set_option maxRecDepth 65536 in
theorem w_c22 : (Jvm.Cond.code ({ cls := "java/lang/StringLatin1", name := "canEncode", desc := "(I)Z" } : Jvm.MethodName) jdk_43_method_4_code (1 : Nat) (Option.some Jvm.ClassFile.FieldType.boolean)).before args0 about1 = true := code_word (m := ⟨11, 2⟩) (meth := k11m2) (c := k11c2) (by decide +kernel) rfl rfl rfl (by decide +kernel)
set_option maxRecDepth 65536 in
theorem w_c23 : (Jvm.Cond.code ({ cls := "java/lang/Math", name := "max", desc := "(II)I" } : Jvm.MethodName) jdk_29_method_65_code (2 : Nat) (Option.some Jvm.ClassFile.FieldType.int)).before args0 about1 = true := code_word (m := ⟨13, 1⟩) (meth := k13m1) (c := k13c1) (by decide +kernel) rfl rfl rfl (by decide +kernel)
set_option maxRecDepth 65536 in
theorem w_c24 : (Jvm.Cond.code ({ cls := "java/lang/Math", name := "min", desc := "(II)I" } : Jvm.MethodName) jdk_29_method_69_code (2 : Nat) (Option.some Jvm.ClassFile.FieldType.int)).before args0 about1 = true := code_word (m := ⟨13, 2⟩) (meth := k13m2) (c := k13c2) (by decide +kernel) rfl rfl rfl (by decide +kernel)
set_option maxRecDepth 65536 in
theorem w_c25 : (Jvm.Cond.code ({ cls := "java/lang/StringLatin1", name := "indexOfChar", desc := "([BIII)I" } : Jvm.MethodName) jdk_43_method_23_code (6 : Nat) (Option.some Jvm.ClassFile.FieldType.int)).before args0 about1 = true := code_word (m := ⟨11, 4⟩) (meth := k11m4) (c := k11c4) (by decide +kernel) rfl rfl rfl (by decide +kernel)
set_option maxRecDepth 65536 in
theorem w_c26 : (Jvm.Cond.code ({ cls := "java/lang/StringUTF16", name := "toBytes", desc := "([CII)[B" } : Jvm.MethodName) jdk_52_method_14_code (5 : Nat) (Option.some (Jvm.ClassFile.FieldType.array Jvm.ClassFile.FieldType.byte))).before args0 about1 = true := code_word (m := ⟨10, 6⟩) (meth := k10m6) (c := k10c6) (by decide +kernel) rfl rfl rfl (by decide +kernel)
set_option maxRecDepth 65536 in
theorem w_c27 : (Jvm.Cond.code ({ cls := "java/lang/StringUTF16", name := "newBytesFor", desc := "(I)[B" } : Jvm.MethodName) jdk_52_method_2_code (1 : Nat) (Option.some (Jvm.ClassFile.FieldType.array Jvm.ClassFile.FieldType.byte))).before args0 about1 = true := code_word (m := ⟨10, 1⟩) (meth := k10m1) (c := k10c1) (by decide +kernel) rfl rfl rfl (by decide +kernel)
set_option maxRecDepth 65536 in
theorem w_c28 : (Jvm.Cond.code ({ cls := "java/lang/StringUTF16", name := "newBytesLength", desc := "(I)I" } : Jvm.MethodName) jdk_52_method_3_code (1 : Nat) (Option.some Jvm.ClassFile.FieldType.int)).before args0 about1 = true := code_word (m := ⟨10, 2⟩) (meth := k10m2) (c := k10c2) (by decide +kernel) rfl rfl rfl (by decide +kernel)
set_option maxRecDepth 65536 in
theorem w_c29 : (Jvm.Cond.code ({ cls := "java/lang/StringUTF16", name := "putChar", desc := "([BII)V" } : Jvm.MethodName) jdk_52_method_4_code (3 : Nat) (Option.none : Option Jvm.ClassFile.FieldType)).before args0 about1 = true := code_word (m := ⟨10, 3⟩) (meth := k10m3) (c := k10c3) (by decide +kernel) rfl rfl rfl (by decide +kernel)
set_option maxRecDepth 65536 in
theorem w_c30 : (Jvm.Cond.code ({ cls := "java/lang/StringUTF16", name := "getChar", desc := "([BI)C" } : Jvm.MethodName) jdk_52_method_5_code (2 : Nat) (Option.some Jvm.ClassFile.FieldType.char)).before args0 about1 = true := code_word (m := ⟨10, 4⟩) (meth := k10m4) (c := k10c4) (by decide +kernel) rfl rfl rfl (by decide +kernel)
set_option maxRecDepth 65536 in
theorem w_c31 : (Jvm.Cond.code ({ cls := "java/lang/StringUTF16", name := "charAt", desc := "([BI)C" } : Jvm.MethodName) jdk_52_method_83_code (2 : Nat) (Option.some Jvm.ClassFile.FieldType.char)).before args0 about1 = true := code_word (m := ⟨10, 10⟩) (meth := k10m10) (c := k10c10) (by decide +kernel) rfl rfl rfl (by decide +kernel)
set_option maxRecDepth 65536 in
theorem w_c32 : (Jvm.Cond.code ({ cls := "java/lang/StringUTF16", name := "checkIndex", desc := "(I[B)V" } : Jvm.MethodName) jdk_52_method_91_code (2 : Nat) (Option.none : Option Jvm.ClassFile.FieldType)).before args0 about1 = true := code_word (m := ⟨10, 11⟩) (meth := k10m11) (c := k10c11) (by decide +kernel) rfl rfl rfl (by decide +kernel)
set_option maxRecDepth 65536 in
theorem w_c33 : (Jvm.Cond.code ({ cls := "java/lang/StringUTF16", name := "length", desc := "([B)I" } : Jvm.MethodName) jdk_52_method_6_code (1 : Nat) (Option.some Jvm.ClassFile.FieldType.int)).before args0 about1 = true := code_word (m := ⟨10, 5⟩) (meth := k10m5) (c := k10c5) (by decide +kernel) rfl rfl rfl (by decide +kernel)
def codes1 : List Jvm.Cond := [Jvm.Cond.code x code maxLocals ret, Jvm.Cond.code ({ cls := "com/example/backplane/backplane/IdSyntaxIsValidPinLaw", name := "make", desc := "(ICCC)Ljava/lang/String;" } : Jvm.MethodName) method_3_code (4 : Nat) (Option.some (Jvm.ClassFile.FieldType.object "java/lang/String")), Jvm.Cond.code ({ cls := "java/lang/String", name := "<init>", desc := "([C)V" } : Jvm.MethodName) jdk_42_method_3_code (2 : Nat) (Option.none : Option Jvm.ClassFile.FieldType), Jvm.Cond.code ({ cls := "java/lang/String", name := "<init>", desc := "([CIILjava/lang/Void;)V" } : Jvm.MethodName) jdk_42_method_149_code (6 : Nat) (Option.none : Option Jvm.ClassFile.FieldType), Jvm.Cond.code ({ cls := "java/lang/Object", name := "<init>", desc := "()V" } : Jvm.MethodName) object_method_1_code (1 : Nat) (Option.none : Option Jvm.ClassFile.FieldType), Jvm.Cond.code ({ cls := "java/lang/StringUTF16", name := "compress", desc := "([CII)[B" } : Jvm.MethodName) jdk_52_method_16_code (6 : Nat) (Option.some (Jvm.ClassFile.FieldType.array Jvm.ClassFile.FieldType.byte)), Jvm.Cond.code ({ cls := "java/lang/StringUTF16", name := "compress", desc := "([CI[BII)I" } : Jvm.MethodName) jdk_52_method_21_code (7 : Nat) (Option.some Jvm.ClassFile.FieldType.int), Jvm.Cond.code ({ cls := "java/lang/StringUTF16", name := "coderFromArrayLen", desc := "([BI)B" } : Jvm.MethodName) jdk_52_method_15_code (2 : Nat) (Option.some Jvm.ClassFile.FieldType.byte), Jvm.Cond.code ({ cls := "com/example/backplane/backplane/IdSyntaxIsValidPinLaw", name := "allowed", desc := "(IC)Z" } : Jvm.MethodName) method_4_code (2 : Nat) (Option.some Jvm.ClassFile.FieldType.boolean), Jvm.Cond.code ({ cls := "com/example/backplane/backplane/IdSyntax", name := "isValid", desc := "(Ljava/lang/String;I)Z" } : Jvm.MethodName) prog_8_method_4_code (4 : Nat) (Option.some Jvm.ClassFile.FieldType.boolean), Jvm.Cond.code ({ cls := "java/lang/String", name := "isEmpty", desc := "()Z" } : Jvm.MethodName) jdk_42_method_55_code (1 : Nat) (Option.some Jvm.ClassFile.FieldType.boolean), Jvm.Cond.code ({ cls := "java/lang/String", name := "length", desc := "()I" } : Jvm.MethodName) jdk_42_method_54_code (1 : Nat) (Option.some Jvm.ClassFile.FieldType.int), Jvm.Cond.code ({ cls := "java/lang/String", name := "coder", desc := "()B" } : Jvm.MethodName) jdk_42_method_152_code (1 : Nat) (Option.some Jvm.ClassFile.FieldType.byte), Jvm.Cond.code ({ cls := "java/lang/String", name := "charAt", desc := "(I)C" } : Jvm.MethodName) jdk_42_method_56_code (2 : Nat) (Option.some Jvm.ClassFile.FieldType.char), Jvm.Cond.code ({ cls := "java/lang/String", name := "isLatin1", desc := "()Z" } : Jvm.MethodName) jdk_42_method_154_code (1 : Nat) (Option.some Jvm.ClassFile.FieldType.boolean), Jvm.Cond.code ({ cls := "java/lang/StringLatin1", name := "charAt", desc := "([BI)C" } : Jvm.MethodName) jdk_43_method_2_code (2 : Nat) (Option.some Jvm.ClassFile.FieldType.char), Jvm.Cond.code ({ cls := "java/lang/String", name := "checkIndex", desc := "(II)V" } : Jvm.MethodName) jdk_42_method_155_code (2 : Nat) (Option.none : Option Jvm.ClassFile.FieldType), Jvm.Cond.code ({ cls := "jdk/internal/util/Preconditions", name := "checkIndex", desc := "(IILjava/util/function/BiFunction;)I" } : Jvm.MethodName) jdk_41_method_11_code (3 : Nat) (Option.some Jvm.ClassFile.FieldType.int), Jvm.Cond.code ({ cls := "com/example/backplane/backplane/IdSyntax", name := "isIdCharacter", desc := "(C)Z" } : Jvm.MethodName) prog_8_method_6_code (2 : Nat) (Option.some Jvm.ClassFile.FieldType.boolean), Jvm.Cond.code ({ cls := "java/lang/String", name := "indexOf", desc := "(I)I" } : Jvm.MethodName) jdk_42_method_79_code (2 : Nat) (Option.some Jvm.ClassFile.FieldType.int), Jvm.Cond.code ({ cls := "java/lang/String", name := "indexOf", desc := "(II)I" } : Jvm.MethodName) jdk_42_method_80_code (3 : Nat) (Option.some Jvm.ClassFile.FieldType.int), Jvm.Cond.code ({ cls := "java/lang/StringLatin1", name := "indexOf", desc := "([BIII)I" } : Jvm.MethodName) jdk_43_method_22_code (4 : Nat) (Option.some Jvm.ClassFile.FieldType.int), Jvm.Cond.code ({ cls := "java/lang/StringLatin1", name := "canEncode", desc := "(I)Z" } : Jvm.MethodName) jdk_43_method_4_code (1 : Nat) (Option.some Jvm.ClassFile.FieldType.boolean), Jvm.Cond.code ({ cls := "java/lang/Math", name := "max", desc := "(II)I" } : Jvm.MethodName) jdk_29_method_65_code (2 : Nat) (Option.some Jvm.ClassFile.FieldType.int), Jvm.Cond.code ({ cls := "java/lang/Math", name := "min", desc := "(II)I" } : Jvm.MethodName) jdk_29_method_69_code (2 : Nat) (Option.some Jvm.ClassFile.FieldType.int), Jvm.Cond.code ({ cls := "java/lang/StringLatin1", name := "indexOfChar", desc := "([BIII)I" } : Jvm.MethodName) jdk_43_method_23_code (6 : Nat) (Option.some Jvm.ClassFile.FieldType.int), Jvm.Cond.code ({ cls := "java/lang/StringUTF16", name := "toBytes", desc := "([CII)[B" } : Jvm.MethodName) jdk_52_method_14_code (5 : Nat) (Option.some (Jvm.ClassFile.FieldType.array Jvm.ClassFile.FieldType.byte)), Jvm.Cond.code ({ cls := "java/lang/StringUTF16", name := "newBytesFor", desc := "(I)[B" } : Jvm.MethodName) jdk_52_method_2_code (1 : Nat) (Option.some (Jvm.ClassFile.FieldType.array Jvm.ClassFile.FieldType.byte)), Jvm.Cond.code ({ cls := "java/lang/StringUTF16", name := "newBytesLength", desc := "(I)I" } : Jvm.MethodName) jdk_52_method_3_code (1 : Nat) (Option.some Jvm.ClassFile.FieldType.int), Jvm.Cond.code ({ cls := "java/lang/StringUTF16", name := "putChar", desc := "([BII)V" } : Jvm.MethodName) jdk_52_method_4_code (3 : Nat) (Option.none : Option Jvm.ClassFile.FieldType), Jvm.Cond.code ({ cls := "java/lang/StringUTF16", name := "getChar", desc := "([BI)C" } : Jvm.MethodName) jdk_52_method_5_code (2 : Nat) (Option.some Jvm.ClassFile.FieldType.char), Jvm.Cond.code ({ cls := "java/lang/StringUTF16", name := "charAt", desc := "([BI)C" } : Jvm.MethodName) jdk_52_method_83_code (2 : Nat) (Option.some Jvm.ClassFile.FieldType.char), Jvm.Cond.code ({ cls := "java/lang/StringUTF16", name := "checkIndex", desc := "(I[B)V" } : Jvm.MethodName) jdk_52_method_91_code (2 : Nat) (Option.none : Option Jvm.ClassFile.FieldType), Jvm.Cond.code ({ cls := "java/lang/StringUTF16", name := "length", desc := "([B)I" } : Jvm.MethodName) jdk_52_method_6_code (1 : Nat) (Option.some Jvm.ClassFile.FieldType.int)]
set_option maxRecDepth 65536 in
theorem codes_eq : words1.filter isCode = codes1 := rfl
theorem w_codes : ∀ c ∈ words1.filter isCode, c.before args0 about1 = true := by
  rw [codes_eq]
  intro c hc
  simp only [codes1, List.mem_cons, List.not_mem_nil, or_false] at hc
  rcases hc with rfl | rfl | rfl | rfl | rfl | rfl | rfl | rfl | rfl | rfl | rfl | rfl | rfl | rfl | rfl | rfl | rfl | rfl | rfl | rfl | rfl | rfl | rfl | rfl | rfl | rfl | rfl | rfl | rfl | rfl | rfl | rfl | rfl | rfl
  · exact w_c0
  · exact w_c1
  · exact w_c2
  · exact w_c3
  · exact w_c4
  · exact w_c5
  · exact w_c6
  · exact w_c7
  · exact w_c8
  · exact w_c9
  · exact w_c10
  · exact w_c11
  · exact w_c12
  · exact w_c13
  · exact w_c14
  · exact w_c15
  · exact w_c16
  · exact w_c17
  · exact w_c18
  · exact w_c19
  · exact w_c20
  · exact w_c21
  · exact w_c22
  · exact w_c23
  · exact w_c24
  · exact w_c25
  · exact w_c26
  · exact w_c27
  · exact w_c28
  · exact w_c29
  · exact w_c30
  · exact w_c31
  · exact w_c32
  · exact w_c33
set_option maxRecDepth 65536 in
theorem w_t1 : (words1.take 24).all (fun c => isCode c || c.before args0 about1) = true := by decide +kernel
set_option maxRecDepth 65536 in
theorem w_t2 : ((words1.drop 24).take 24).all (fun c => isCode c || c.before args0 about1) = true := by decide +kernel
set_option maxRecDepth 65536 in
theorem w_t3 : (((words1.drop 24).drop 24).take 24).all (fun c => isCode c || c.before args0 about1) = true := by decide +kernel
set_option maxRecDepth 65536 in
theorem w_t4 : ((((words1.drop 24).drop 24).drop 24).take 24).all (fun c => isCode c || c.before args0 about1) = true := by decide +kernel
set_option maxRecDepth 65536 in
theorem w_t5 : (((((words1.drop 24).drop 24).drop 24).drop 24).take 24).all (fun c => isCode c || c.before args0 about1) = true := by decide +kernel
set_option maxRecDepth 65536 in
theorem w_t6 : ((((((words1.drop 24).drop 24).drop 24).drop 24).drop 24).take 24).all (fun c => isCode c || c.before args0 about1) = true := by decide +kernel
set_option maxRecDepth 65536 in
theorem w_t7 : ((((((words1.drop 24).drop 24).drop 24).drop 24).drop 24).drop 24).all (fun c => isCode c || c.before args0 about1) = true := by decide +kernel
theorem w_tables : (allAtoms (Jvm.Cond.code x code maxLocals ret :: tables_1)).before args0 about1 = true := by
  rw [allAtoms_all]
  show words1.all (fun c => c.before args0 about1) = true
  refine all_split ?_ w_codes
  rw [← List.take_append_drop 24 words1, List.all_append, w_t1, ← List.take_append_drop 24 (words1.drop 24), List.all_append, w_t2, ← List.take_append_drop 24 ((words1.drop 24).drop 24), List.all_append, w_t3, ← List.take_append_drop 24 (((words1.drop 24).drop 24).drop 24), List.all_append, w_t4, ← List.take_append_drop 24 ((((words1.drop 24).drop 24).drop 24).drop 24), List.all_append, w_t5, ← List.take_append_drop 24 (((((words1.drop 24).drop 24).drop 24).drop 24).drop 24), List.all_append, w_t6, w_t7]
  rfl
set_option maxRecDepth 65536 in
theorem w_rest : rest_1_c.before args0 about1 = true := by decide +kernel
set_option maxRecDepth 65536 in
theorem w_case : (Jvm.Cond.and given_1 narrow_1).before args0 about1 = true := by decide +kernel
set_option maxRecDepth 65536 in
theorem w_consts : constsHeld consts_1 about1 := Jvm.Lit.constsHeldB_iff.mp (by decide +kernel)
theorem w_applies : (headSpec (Jvm.Cond.code x code maxLocals ret :: tables_1) room_1).applies x e0.platform about1 = true :=
  (Spec.applies_iff w_frames).mpr ⟨w_running, w_runnable, w_alone, w_named, w_hears, w_ripe, w_room, w_tables⟩
theorem atStart : AtStart classFile x code maxLocals ret World_1 tables_1 room_1 Calls_1 rest_1 Pre_1 launch0 p0 e0 about1 theMethod args0 below0 :=
  ⟨lists_1, trivial, launch0.admits_env _ _ _, launch0.least_env, fairChoices_fair.cas, fairChoices_fair.clock, w_frames, w_args, w_heap, w_applies, ⟨w_consts, trivial⟩, w_rest, w_case⟩
end start1
theorem witness_1 : WitnessClaimed_1 := ⟨start1.p0, start1.e0, start1.about1, start1.theMethod, start1.args0, start1.below0, start1.atStart⟩
end Jvm.Pilot.@@N@@
